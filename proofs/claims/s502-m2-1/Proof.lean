import JvmDerived
import JvmDerived.Pilot.@@N@@Statement
import JvmDerived.Pilot.@@N@@Code
set_option linter.unusedVariables false
set_option linter.unusedSimpArgs false
namespace Jvm.Pilot.@@N@@
open Jvm Jvm.ClassFile Sem Op Lib Jvm.Free Jvm.Stand Jvm.LawKit Jvm.RoadKit Bundle Jvm.Pilot.@@N@@.Jvm.D
section Layer
variable {p : Program} {l : Launch} {e : Env} {R : Room} {s : State} {m : MethodId} {args : Array Value} {below : List Frame} {meth : Method} {c : Code} {T : State} {locs : List Loc} {cells slots : Nat} {Q : Option Value → Heap → List Loc → Prop} {K N : Nat} {pc n : Nat} {Ls : Array Slot} {rest st : List Value} {Z : State} {a0 : Array Value} {h : Heap}
/-- from st on the invocation ends as Q says -/
def Goes (p : Program) (e : Env) (below : List Frame) (s : State) (Q : Option Value → Heap → List Loc → Prop) (K N : Nat) (st : State) : Prop :=
  ∃ s₂ o, Steps p.tables e below st s₂ ∧ s₂.status = .running ∧ Ended s₂ below o ∧ ∃ v L, o = .returned v ∧ Q v s₂.heap L ∧ FrameEnd s o s₂ L K N
theorem Goes.via {st st' : State} (g : Goes p e below s Q K N st') (h : ∀ t, Steps p.tables e below st' t → Steps p.tables e below st t) : Goes p e below s Q K N st := by
  obtain ⟨s₂, o, h1, r⟩ := g
  exact ⟨s₂, o, h _ h1, r⟩
/-- a body's contract -/
def Does (l : Launch) (Z : State) (y : MethodName) (bytes : ByteArray) (maxL : Nat) (ret : Option FieldType) (ws : List Jvm.Cond) (rm : Room) (as : Array Value) (h : Heap) (Q : Option Value → Heap → List Loc → Prop) : Prop :=
  MetFree l y (head1 (Jvm.Cond.code y bytes maxL ret :: ws) rm) (fun a U => a = as ∧ Z.Warmed39 U.vm ∧ U.heap = h) (fun _ _ _ _ _ => True) (fun _ U o U' => ∃ v L, o = .returned v ∧ Q v U'.heap L ∧ FrameEnd U o U' L rm.cells rm.slots)
theorem Does.of {y : MethodName} {bytes : ByteArray} {maxL : Nat} {ret : Option FieldType} {ws : List Jvm.Cond} {rm : Room} {as : Array Value} (hpl : plainFor y = true)
    (body : ∀ (p : Program) (e : Env) (s : State) (m : MethodId) (below : List Frame) (meth : Method) (c : Code) (T : State), p.tables.exec = Jvm.exec → c.code = bytes → c.maxLocals = maxL → s.vm.findClass y.cls = some m.cls → meth.name = y.name → meth.sig.returnType = ret → meth.locks = false → Z.Warmed39 s.vm → Stand p l e rm s m as below meth c T [] 0 0 → T.heap = h → Goes p e below s Q rm.cells rm.slots (T.setTop (entryFrame m as maxL))) : Does l Z y bytes maxL ret ws rm as h Q := by
  refine MetFree.of_bodySF hpl hisR ?_
  intro p e s m args below meth c s₁ Bd hml0 hP hK
  obtain ⟨rfl, hZ, hh⟩ := hP
  have X0 : Stand p l e rm s m args below meth c s₁ [] 0 0 := Stand.of_body Bd
  exact body p e s m below meth c s₁ Bd.exec Bd.bytes hml0 (findClass_of_methodNamed Bd.named) (name_of_methodNamed Bd.named Bd.method).1 Bd.returns Bd.notSynchronized hZ X0 (by rw [← hh, Bd.state]; rfl)
theorem o_entry {as : Array Value} {maxL : Nat} (q : entryFrame m as maxL = mkF m 0 Ls []) (g : Goes p e below s Q K N (T.setTop (mkF m 0 Ls []))) : Goes p e below s Q K N (T.setTop (entryFrame m as maxL)) := q ▸ g
theorem o_iload (X : Stand p l e R s m args below meth c T locs cells slots) (hx : p.tables.exec = Jvm.exec) {j : Nat} {v : Int32} (hd : decode c.code pc = .ok (.iload j, 2)) (hl : Ls[j]? = some (.val (.int v))) (hn : pc + 2 = n) (g : Goes p e below s Q K N (T.setTop (mkF m n Ls (.int v :: st)))) : Goes p e below s Q K N (T.setTop (mkF m pc Ls st)) := by
  subst hn
  exact g.via fun t k => XS.iload X.here hx rfl hd hl k
theorem o_iloadN (X : Stand p l e R s m args below meth c T locs cells slots) (hx : p.tables.exec = Jvm.exec) {j : Fin 4} {v : Int32} (hd : decode c.code pc = .ok (.iload_n j, 1)) (hl : Ls[j.val]? = some (.val (.int v))) (hn : pc + 1 = n) (g : Goes p e below s Q K N (T.setTop (mkF m n Ls (.int v :: st)))) : Goes p e below s Q K N (T.setTop (mkF m pc Ls st)) := by
  subst hn
  exact g.via fun t k => XS.iloadN X.here hx rfl hd hl k
theorem o_lload (X : Stand p l e R s m args below meth c T locs cells slots) (hx : p.tables.exec = Jvm.exec) {j : Nat} {v : Int64} (hd : decode c.code pc = .ok (.lload j, 2)) (hl : Ls[j]? = some (.val (.long v))) (hn : pc + 2 = n) (g : Goes p e below s Q K N (T.setTop (mkF m n Ls (.long v :: st)))) : Goes p e below s Q K N (T.setTop (mkF m pc Ls st)) := by
  subst hn
  exact g.via fun t k => XS.lload X.here hx rfl hd hl k
theorem o_lloadN (X : Stand p l e R s m args below meth c T locs cells slots) (hx : p.tables.exec = Jvm.exec) {j : Fin 4} {v : Int64} (hd : decode c.code pc = .ok (.lload_n j, 1)) (hl : Ls[j.val]? = some (.val (.long v))) (hn : pc + 1 = n) (g : Goes p e below s Q K N (T.setTop (mkF m n Ls (.long v :: st)))) : Goes p e below s Q K N (T.setTop (mkF m pc Ls st)) := by
  subst hn
  exact g.via fun t k => XS.lloadN X.here hx rfl hd hl k
theorem o_aload (X : Stand p l e R s m args below meth c T locs cells slots) (hx : p.tables.exec = Jvm.exec) {j : Nat} {v : Value} (hd : decode c.code pc = .ok (.aload j, 2)) (hl : Ls[j]? = some (.val v)) (hv : v.isRef = true) (hn : pc + 2 = n) (g : Goes p e below s Q K N (T.setTop (mkF m n Ls (v :: st)))) : Goes p e below s Q K N (T.setTop (mkF m pc Ls st)) := by
  subst hn
  exact g.via fun t k => XS.aload X.here hx rfl hd hl hv k
theorem o_aloadN (X : Stand p l e R s m args below meth c T locs cells slots) (hx : p.tables.exec = Jvm.exec) {j : Fin 4} {v : Value} (hd : decode c.code pc = .ok (.aload_n j, 1)) (hl : Ls[j.val]? = some (.val v)) (hv : v.isRef = true) (hn : pc + 1 = n) (g : Goes p e below s Q K N (T.setTop (mkF m n Ls (v :: st)))) : Goes p e below s Q K N (T.setTop (mkF m pc Ls st)) := by
  subst hn
  exact g.via fun t k => XS.aloadN X.here hx rfl hd hl hv k
theorem o_istore (X : Stand p l e R s m args below meth c T locs cells slots) (hx : p.tables.exec = Jvm.exec) {j : Nat} {v : Int32} {Ls' : Array Slot} (hd : decode c.code pc = .ok (.istore j, 2)) (hl : storeLocals Ls j (.int v) = some Ls') (hn : pc + 2 = n) (g : Goes p e below s Q K N (T.setTop (mkF m n Ls' rest))) : Goes p e below s Q K N (T.setTop (mkF m pc Ls (.int v :: rest))) := by
  subst hn
  exact g.via fun t k => XS.istore X.here hx rfl hd rfl hl k
theorem o_istoreN (X : Stand p l e R s m args below meth c T locs cells slots) (hx : p.tables.exec = Jvm.exec) {j : Fin 4} {v : Int32} {Ls' : Array Slot} (hd : decode c.code pc = .ok (.istore_n j, 1)) (hl : storeLocals Ls j.val (.int v) = some Ls') (hn : pc + 1 = n) (g : Goes p e below s Q K N (T.setTop (mkF m n Ls' rest))) : Goes p e below s Q K N (T.setTop (mkF m pc Ls (.int v :: rest))) := by
  subst hn
  exact g.via fun t k => XS.istoreN X.here hx rfl hd rfl hl k
theorem o_lstore (X : Stand p l e R s m args below meth c T locs cells slots) (hx : p.tables.exec = Jvm.exec) {j : Nat} {v : Int64} {Ls' : Array Slot} (hd : decode c.code pc = .ok (.lstore j, 2)) (hl : storeLocals Ls j (.long v) = some Ls') (hn : pc + 2 = n) (g : Goes p e below s Q K N (T.setTop (mkF m n Ls' rest))) : Goes p e below s Q K N (T.setTop (mkF m pc Ls (.long v :: rest))) := by
  subst hn
  exact g.via fun t k => XS.lstore X.here hx rfl hd rfl hl k
theorem o_lstoreN (X : Stand p l e R s m args below meth c T locs cells slots) (hx : p.tables.exec = Jvm.exec) {j : Fin 4} {v : Int64} {Ls' : Array Slot} (hd : decode c.code pc = .ok (.lstore_n j, 1)) (hl : storeLocals Ls j.val (.long v) = some Ls') (hn : pc + 1 = n) (g : Goes p e below s Q K N (T.setTop (mkF m n Ls' rest))) : Goes p e below s Q K N (T.setTop (mkF m pc Ls (.long v :: rest))) := by
  subst hn
  exact g.via fun t k => XS.lstoreN X.here hx rfl hd rfl hl k
theorem o_astore (X : Stand p l e R s m args below meth c T locs cells slots) (hx : p.tables.exec = Jvm.exec) {j : Nat} {v : Value} {Ls' : Array Slot} (hd : decode c.code pc = .ok (.astore j, 2)) (hv : v.isRef = true) (hl : storeLocals Ls j v = some Ls') (hn : pc + 2 = n) (g : Goes p e below s Q K N (T.setTop (mkF m n Ls' rest))) : Goes p e below s Q K N (T.setTop (mkF m pc Ls (v :: rest))) := by
  subst hn
  exact g.via fun t k => XS.astore X.here hx rfl hd rfl hv hl k
theorem o_astoreN (X : Stand p l e R s m args below meth c T locs cells slots) (hx : p.tables.exec = Jvm.exec) {j : Fin 4} {v : Value} {Ls' : Array Slot} (hd : decode c.code pc = .ok (.astore_n j, 1)) (hv : v.isRef = true) (hl : storeLocals Ls j.val v = some Ls') (hn : pc + 1 = n) (g : Goes p e below s Q K N (T.setTop (mkF m n Ls' rest))) : Goes p e below s Q K N (T.setTop (mkF m pc Ls (v :: rest))) := by
  subst hn
  exact g.via fun t k => XS.astoreN X.here hx rfl hd rfl hv hl k
theorem o_iinc (X : Stand p l e R s m args below meth c T locs cells slots) (hx : p.tables.exec = Jvm.exec) {j : Nat} {cst : Int} {x w : Int32} {Ls' : Array Slot} (hd : decode c.code pc = .ok (.iinc j cst, 3)) (hl : Ls[j]? = some (.val (.int x))) (hw : x + Int32.ofInt cst = w) (hl' : storeLocals Ls j (.int w) = some Ls') (hn : pc + 3 = n) (g : Goes p e below s Q K N (T.setTop (mkF m n Ls' st))) : Goes p e below s Q K N (T.setTop (mkF m pc Ls st)) := by
  subst hn
  exact g.via fun t k => XS.iinc X.here hx rfl hd hl (by rw [hw]; exact hl') k
theorem o_iconst (X : Stand p l e R s m args below meth c T locs cells slots) (hx : p.tables.exec = Jvm.exec) {i : Int} {v : Int32} (hd : decode c.code pc = .ok (.iconst i, 1)) (hv : Int32.ofInt i = v) (hn : pc + 1 = n) (g : Goes p e below s Q K N (T.setTop (mkF m n Ls (.int v :: st)))) : Goes p e below s Q K N (T.setTop (mkF m pc Ls st)) := by
  subst hn hv
  exact g.via fun t k => XS.iconst X.here hx rfl hd k
theorem o_bipush (X : Stand p l e R s m args below meth c T locs cells slots) (hx : p.tables.exec = Jvm.exec) {i : Int} {v : Int32} (hd : decode c.code pc = .ok (.bipush i, 2)) (hv : (Int8.ofInt i).toInt32 = v) (hn : pc + 2 = n) (g : Goes p e below s Q K N (T.setTop (mkF m n Ls (.int v :: st)))) : Goes p e below s Q K N (T.setTop (mkF m pc Ls st)) := by
  subst hn hv
  exact g.via fun t k => XS.bipush X.here hx rfl hd k
theorem o_sipush (X : Stand p l e R s m args below meth c T locs cells slots) (hx : p.tables.exec = Jvm.exec) {i : Int} {v : Int32} (hd : decode c.code pc = .ok (.sipush i, 3)) (hv : (Int16.ofInt i).toInt32 = v) (hn : pc + 3 = n) (g : Goes p e below s Q K N (T.setTop (mkF m n Ls (.int v :: st)))) : Goes p e below s Q K N (T.setTop (mkF m pc Ls st)) := by
  subst hn hv
  exact g.via fun t k => XS.sipush X.here hx rfl hd k
theorem o_lconst (X : Stand p l e R s m args below meth c T locs cells slots) (hx : p.tables.exec = Jvm.exec) {j : Fin 2} {v : Int64} (hd : decode c.code pc = .ok (.lconst j, 1)) (hv : Int64.ofNat j = v) (hn : pc + 1 = n) (g : Goes p e below s Q K N (T.setTop (mkF m n Ls (.long v :: st)))) : Goes p e below s Q K N (T.setTop (mkF m pc Ls st)) := by
  subst hn hv
  exact g.via fun t k => XS.lconst X.here hx rfl hd k
theorem o_aconst_null (X : Stand p l e R s m args below meth c T locs cells slots) (hx : p.tables.exec = Jvm.exec)  (hd : decode c.code pc = .ok (.aconst_null, 1)) (hn : pc + 1 = n) (g : Goes p e below s Q K N (T.setTop (mkF m n Ls (.null :: st)))) : Goes p e below s Q K N (T.setTop (mkF m pc Ls st)) := by
  subst hn
  exact g.via fun t k => XS.aconstNull X.here hx rfl hd k
theorem o_ldc (X : Stand p l e R s m args below meth c T locs cells slots) (hx : p.tables.exec = Jvm.exec)  (hZ : Z.Warmed39 s.vm) {own : String} {index : Nat} {v : Int32} (hown : s.vm.findClass own = some m.cls) (w : (Jvm.Cond.constant own index v).before a0 Z = true) (hd : decode c.code pc = .ok (.ldc index, 2)) (hn : pc + 2 = n) (g : Goes p e below s Q K N (T.setTop (mkF m n Ls (.int v :: st)))) : Goes p e below s Q K N (T.setTop (mkF m pc Ls st)) := by
  subst hn
  exact g.via fun t k => X.ldcInt hx hown (mvT hZ w) (g := mkF m pc Ls st) rfl hd t k
theorem o_ldc_w (X : Stand p l e R s m args below meth c T locs cells slots) (hx : p.tables.exec = Jvm.exec)  (hZ : Z.Warmed39 s.vm) {own : String} {index : Nat} {v : Int32} (hown : s.vm.findClass own = some m.cls) (w : (Jvm.Cond.constant own index v).before a0 Z = true) (hd : decode c.code pc = .ok (.ldc_w index, 3)) (hn : pc + 3 = n) (g : Goes p e below s Q K N (T.setTop (mkF m n Ls (.int v :: st)))) : Goes p e below s Q K N (T.setTop (mkF m pc Ls st)) := by
  subst hn
  exact g.via fun t k => X.ldcWInt hx hown (mvT hZ w) (g := mkF m pc Ls st) rfl hd t k
theorem o_ldc2_w (X : Stand p l e R s m args below meth c T locs cells slots) (hx : p.tables.exec = Jvm.exec)  (hZ : Z.Warmed39 s.vm) {own : String} {index : Nat} {v : Int64} (hown : s.vm.findClass own = some m.cls) (w : (Jvm.Cond.constantLong own index v).before a0 Z = true) (hd : decode c.code pc = .ok (.ldc2_w index, 3)) (hn : pc + 3 = n) (g : Goes p e below s Q K N (T.setTop (mkF m n Ls (.long v :: st)))) : Goes p e below s Q K N (T.setTop (mkF m pc Ls st)) := by
  subst hn
  exact g.via fun t k => X.ldc2Long hx hown (mvT hZ w) (g := mkF m pc Ls st) rfl hd t k
theorem o_iadd (X : Stand p l e R s m args below meth c T locs cells slots) (hx : p.tables.exec = Jvm.exec) {x y v : Int32} (hd : decode c.code pc = .ok (.iadd, 1)) (hv : x + y = v) (hn : pc + 1 = n) (g : Goes p e below s Q K N (T.setTop (mkF m n Ls (.int v :: rest)))) : Goes p e below s Q K N (T.setTop (mkF m pc Ls (.int y :: .int x :: rest))) := by
  subst hn hv
  exact g.via fun t k => XS.iadd X.here hx rfl hd rfl k
theorem o_isub (X : Stand p l e R s m args below meth c T locs cells slots) (hx : p.tables.exec = Jvm.exec) {x y v : Int32} (hd : decode c.code pc = .ok (.isub, 1)) (hv : x - y = v) (hn : pc + 1 = n) (g : Goes p e below s Q K N (T.setTop (mkF m n Ls (.int v :: rest)))) : Goes p e below s Q K N (T.setTop (mkF m pc Ls (.int y :: .int x :: rest))) := by
  subst hn hv
  exact g.via fun t k => XS.isub X.here hx rfl hd rfl k
theorem o_imul (X : Stand p l e R s m args below meth c T locs cells slots) (hx : p.tables.exec = Jvm.exec) {x y v : Int32} (hd : decode c.code pc = .ok (.imul, 1)) (hv : x * y = v) (hn : pc + 1 = n) (g : Goes p e below s Q K N (T.setTop (mkF m n Ls (.int v :: rest)))) : Goes p e below s Q K N (T.setTop (mkF m pc Ls (.int y :: .int x :: rest))) := by
  subst hn hv
  exact g.via fun t k => XS.imul X.here hx rfl hd rfl k
theorem o_iand (X : Stand p l e R s m args below meth c T locs cells slots) (hx : p.tables.exec = Jvm.exec) {x y v : Int32} (hd : decode c.code pc = .ok (.iand, 1)) (hv : x &&& y = v) (hn : pc + 1 = n) (g : Goes p e below s Q K N (T.setTop (mkF m n Ls (.int v :: rest)))) : Goes p e below s Q K N (T.setTop (mkF m pc Ls (.int y :: .int x :: rest))) := by
  subst hn hv
  exact g.via fun t k => XS.iand X.here hx rfl hd rfl k
theorem o_ior (X : Stand p l e R s m args below meth c T locs cells slots) (hx : p.tables.exec = Jvm.exec) {x y v : Int32} (hd : decode c.code pc = .ok (.ior, 1)) (hv : x ||| y = v) (hn : pc + 1 = n) (g : Goes p e below s Q K N (T.setTop (mkF m n Ls (.int v :: rest)))) : Goes p e below s Q K N (T.setTop (mkF m pc Ls (.int y :: .int x :: rest))) := by
  subst hn hv
  exact g.via fun t k => XS.ior X.here hx rfl hd rfl k
theorem o_ixor (X : Stand p l e R s m args below meth c T locs cells slots) (hx : p.tables.exec = Jvm.exec) {x y v : Int32} (hd : decode c.code pc = .ok (.ixor, 1)) (hv : x ^^^ y = v) (hn : pc + 1 = n) (g : Goes p e below s Q K N (T.setTop (mkF m n Ls (.int v :: rest)))) : Goes p e below s Q K N (T.setTop (mkF m pc Ls (.int y :: .int x :: rest))) := by
  subst hn hv
  exact g.via fun t k => XS.ixor X.here hx rfl hd rfl k
theorem o_ladd (X : Stand p l e R s m args below meth c T locs cells slots) (hx : p.tables.exec = Jvm.exec) {x y v : Int64} (hd : decode c.code pc = .ok (.ladd, 1)) (hv : x + y = v) (hn : pc + 1 = n) (g : Goes p e below s Q K N (T.setTop (mkF m n Ls (.long v :: rest)))) : Goes p e below s Q K N (T.setTop (mkF m pc Ls (.long y :: .long x :: rest))) := by
  subst hn hv
  exact g.via fun t k => XS.ladd X.here hx rfl hd rfl k
theorem o_lsub (X : Stand p l e R s m args below meth c T locs cells slots) (hx : p.tables.exec = Jvm.exec) {x y v : Int64} (hd : decode c.code pc = .ok (.lsub, 1)) (hv : x - y = v) (hn : pc + 1 = n) (g : Goes p e below s Q K N (T.setTop (mkF m n Ls (.long v :: rest)))) : Goes p e below s Q K N (T.setTop (mkF m pc Ls (.long y :: .long x :: rest))) := by
  subst hn hv
  exact g.via fun t k => XS.lsub X.here hx rfl hd rfl k
theorem o_lmul (X : Stand p l e R s m args below meth c T locs cells slots) (hx : p.tables.exec = Jvm.exec) {x y v : Int64} (hd : decode c.code pc = .ok (.lmul, 1)) (hv : x * y = v) (hn : pc + 1 = n) (g : Goes p e below s Q K N (T.setTop (mkF m n Ls (.long v :: rest)))) : Goes p e below s Q K N (T.setTop (mkF m pc Ls (.long y :: .long x :: rest))) := by
  subst hn hv
  exact g.via fun t k => XS.lmul X.here hx rfl hd rfl k
theorem o_land (X : Stand p l e R s m args below meth c T locs cells slots) (hx : p.tables.exec = Jvm.exec) {x y v : Int64} (hd : decode c.code pc = .ok (.land, 1)) (hv : x &&& y = v) (hn : pc + 1 = n) (g : Goes p e below s Q K N (T.setTop (mkF m n Ls (.long v :: rest)))) : Goes p e below s Q K N (T.setTop (mkF m pc Ls (.long y :: .long x :: rest))) := by
  subst hn hv
  exact g.via fun t k => XS.land X.here hx rfl hd rfl k
theorem o_lor (X : Stand p l e R s m args below meth c T locs cells slots) (hx : p.tables.exec = Jvm.exec) {x y v : Int64} (hd : decode c.code pc = .ok (.lor, 1)) (hv : x ||| y = v) (hn : pc + 1 = n) (g : Goes p e below s Q K N (T.setTop (mkF m n Ls (.long v :: rest)))) : Goes p e below s Q K N (T.setTop (mkF m pc Ls (.long y :: .long x :: rest))) := by
  subst hn hv
  exact g.via fun t k => XS.lor X.here hx rfl hd rfl k
theorem o_lxor (X : Stand p l e R s m args below meth c T locs cells slots) (hx : p.tables.exec = Jvm.exec) {x y v : Int64} (hd : decode c.code pc = .ok (.lxor, 1)) (hv : x ^^^ y = v) (hn : pc + 1 = n) (g : Goes p e below s Q K N (T.setTop (mkF m n Ls (.long v :: rest)))) : Goes p e below s Q K N (T.setTop (mkF m pc Ls (.long y :: .long x :: rest))) := by
  subst hn hv
  exact g.via fun t k => XS.lxor X.here hx rfl hd rfl k
theorem o_idiv (X : Stand p l e R s m args below meth c T locs cells slots) (hx : p.tables.exec = Jvm.exec) {x y v : Int32} (hd : decode c.code pc = .ok (.idiv, 1)) (hy : y ≠ 0) (hv : x / y = v) (hn : pc + 1 = n) (g : Goes p e below s Q K N (T.setTop (mkF m n Ls (.int v :: rest)))) : Goes p e below s Q K N (T.setTop (mkF m pc Ls (.int y :: .int x :: rest))) := by
  subst hn hv
  exact g.via fun t k => XS.idiv X.here hx rfl hd rfl hy k
theorem o_irem (X : Stand p l e R s m args below meth c T locs cells slots) (hx : p.tables.exec = Jvm.exec) {x y v : Int32} (hd : decode c.code pc = .ok (.irem, 1)) (hy : y ≠ 0) (hv : x % y = v) (hn : pc + 1 = n) (g : Goes p e below s Q K N (T.setTop (mkF m n Ls (.int v :: rest)))) : Goes p e below s Q K N (T.setTop (mkF m pc Ls (.int y :: .int x :: rest))) := by
  subst hn hv
  exact g.via fun t k => iremM X hx (g := mkF m pc Ls _) rfl hd rfl hy k
theorem o_ldiv (X : Stand p l e R s m args below meth c T locs cells slots) (hx : p.tables.exec = Jvm.exec) {x y v : Int64} (hd : decode c.code pc = .ok (.ldiv, 1)) (hy : y ≠ 0) (hv : x / y = v) (hn : pc + 1 = n) (g : Goes p e below s Q K N (T.setTop (mkF m n Ls (.long v :: rest)))) : Goes p e below s Q K N (T.setTop (mkF m pc Ls (.long y :: .long x :: rest))) := by
  subst hn hv
  exact g.via fun t k => XS.ldiv X.here hx rfl hd rfl hy k
theorem o_lrem (X : Stand p l e R s m args below meth c T locs cells slots) (hx : p.tables.exec = Jvm.exec) {x y v : Int64} (hd : decode c.code pc = .ok (.lrem, 1)) (hy : y ≠ 0) (hv : x % y = v) (hn : pc + 1 = n) (g : Goes p e below s Q K N (T.setTop (mkF m n Ls (.long v :: rest)))) : Goes p e below s Q K N (T.setTop (mkF m pc Ls (.long y :: .long x :: rest))) := by
  subst hn hv
  exact g.via fun t k => XS.lrem X.here hx rfl hd rfl hy (by rw [lrem_mod]; exact k)
theorem o_ishl (X : Stand p l e R s m args below meth c T locs cells slots) (hx : p.tables.exec = Jvm.exec) {x y v : Int32} (hd : decode c.code pc = .ok (.ishl, 1)) (hv : x <<< (y &&& 31) = v) (hn : pc + 1 = n) (g : Goes p e below s Q K N (T.setTop (mkF m n Ls (.int v :: rest)))) : Goes p e below s Q K N (T.setTop (mkF m pc Ls (.int y :: .int x :: rest))) := by
  subst hn hv
  exact g.via fun t k => XS.ishl X.here hx rfl hd rfl k
theorem o_ishr (X : Stand p l e R s m args below meth c T locs cells slots) (hx : p.tables.exec = Jvm.exec) {x y v : Int32} (hd : decode c.code pc = .ok (.ishr, 1)) (hv : x >>> (y &&& 31) = v) (hn : pc + 1 = n) (g : Goes p e below s Q K N (T.setTop (mkF m n Ls (.int v :: rest)))) : Goes p e below s Q K N (T.setTop (mkF m pc Ls (.int y :: .int x :: rest))) := by
  subst hn hv
  exact g.via fun t k => XS.ishr X.here hx rfl hd rfl k
theorem o_iushr (X : Stand p l e R s m args below meth c T locs cells slots) (hx : p.tables.exec = Jvm.exec) {x y v : Int32} (hd : decode c.code pc = .ok (.iushr, 1)) (hv : (x.toUInt32 >>> (y &&& 31).toUInt32).toInt32 = v) (hn : pc + 1 = n) (g : Goes p e below s Q K N (T.setTop (mkF m n Ls (.int v :: rest)))) : Goes p e below s Q K N (T.setTop (mkF m pc Ls (.int y :: .int x :: rest))) := by
  subst hn hv
  exact g.via fun t k => XS.iushr X.here hx rfl hd rfl k
theorem o_lshl (X : Stand p l e R s m args below meth c T locs cells slots) (hx : p.tables.exec = Jvm.exec) {x v : Int64} {y : Int32} (hd : decode c.code pc = .ok (.lshl, 1)) (hv : x <<< (y &&& 0x3f).toInt64 = v) (hn : pc + 1 = n) (g : Goes p e below s Q K N (T.setTop (mkF m n Ls (.long v :: rest)))) : Goes p e below s Q K N (T.setTop (mkF m pc Ls (.int y :: .long x :: rest))) := by
  subst hn hv
  exact g.via fun t k => XS.lshl X.here hx rfl hd rfl k
theorem o_lshr (X : Stand p l e R s m args below meth c T locs cells slots) (hx : p.tables.exec = Jvm.exec) {x v : Int64} {y : Int32} (hd : decode c.code pc = .ok (.lshr, 1)) (hv : x >>> (y &&& 0x3f).toInt64 = v) (hn : pc + 1 = n) (g : Goes p e below s Q K N (T.setTop (mkF m n Ls (.long v :: rest)))) : Goes p e below s Q K N (T.setTop (mkF m pc Ls (.int y :: .long x :: rest))) := by
  subst hn hv
  exact g.via fun t k => XS.lshr X.here hx rfl hd rfl k
theorem o_lushr (X : Stand p l e R s m args below meth c T locs cells slots) (hx : p.tables.exec = Jvm.exec) {x v : Int64} {y : Int32} (hd : decode c.code pc = .ok (.lushr, 1)) (hv : (x.toUInt64 >>> (y &&& 0x3f).toInt64.toUInt64).toInt64 = v) (hn : pc + 1 = n) (g : Goes p e below s Q K N (T.setTop (mkF m n Ls (.long v :: rest)))) : Goes p e below s Q K N (T.setTop (mkF m pc Ls (.int y :: .long x :: rest))) := by
  subst hn hv
  exact g.via fun t k => XS.lushr X.here hx rfl hd rfl k
theorem o_i2l (X : Stand p l e R s m args below meth c T locs cells slots) (hx : p.tables.exec = Jvm.exec) {x : Int32} {v : Int64} (hd : decode c.code pc = .ok (.i2l, 1)) (hv : x.toInt64 = v) (hn : pc + 1 = n) (g : Goes p e below s Q K N (T.setTop (mkF m n Ls (.long v :: rest)))) : Goes p e below s Q K N (T.setTop (mkF m pc Ls (.int x :: rest))) := by
  subst hn hv
  exact g.via fun t k => XS.i2l X.here hx rfl hd rfl k
theorem o_l2i (X : Stand p l e R s m args below meth c T locs cells slots) (hx : p.tables.exec = Jvm.exec) {x : Int64} {v : Int32} (hd : decode c.code pc = .ok (.l2i, 1)) (hv : x.toInt32 = v) (hn : pc + 1 = n) (g : Goes p e below s Q K N (T.setTop (mkF m n Ls (.int v :: rest)))) : Goes p e below s Q K N (T.setTop (mkF m pc Ls (.long x :: rest))) := by
  subst hn hv
  exact g.via fun t k => XS.l2i X.here hx rfl hd rfl k
theorem o_i2b (X : Stand p l e R s m args below meth c T locs cells slots) (hx : p.tables.exec = Jvm.exec) {x : Int32} {v : Int32} (hd : decode c.code pc = .ok (.i2b, 1)) (hv : x.toInt8.toInt32 = v) (hn : pc + 1 = n) (g : Goes p e below s Q K N (T.setTop (mkF m n Ls (.int v :: rest)))) : Goes p e below s Q K N (T.setTop (mkF m pc Ls (.int x :: rest))) := by
  subst hn hv
  exact g.via fun t k => XS.i2b X.here hx rfl hd rfl k
theorem o_i2c (X : Stand p l e R s m args below meth c T locs cells slots) (hx : p.tables.exec = Jvm.exec) {x : Int32} {v : Int32} (hd : decode c.code pc = .ok (.i2c, 1)) (hv : x.toUInt32.toUInt16.toUInt32.toInt32 = v) (hn : pc + 1 = n) (g : Goes p e below s Q K N (T.setTop (mkF m n Ls (.int v :: rest)))) : Goes p e below s Q K N (T.setTop (mkF m pc Ls (.int x :: rest))) := by
  subst hn hv
  exact g.via fun t k => XS.i2c X.here hx rfl hd rfl k
theorem o_i2s (X : Stand p l e R s m args below meth c T locs cells slots) (hx : p.tables.exec = Jvm.exec) {x : Int32} {v : Int32} (hd : decode c.code pc = .ok (.i2s, 1)) (hv : x.toInt16.toInt32 = v) (hn : pc + 1 = n) (g : Goes p e below s Q K N (T.setTop (mkF m n Ls (.int v :: rest)))) : Goes p e below s Q K N (T.setTop (mkF m pc Ls (.int x :: rest))) := by
  subst hn hv
  exact g.via fun t k => XS.i2s X.here hx rfl hd rfl k
theorem o_ineg (X : Stand p l e R s m args below meth c T locs cells slots) (hx : p.tables.exec = Jvm.exec) {x : Int32} {v : Int32} (hd : decode c.code pc = .ok (.ineg, 1)) (hv : -x = v) (hn : pc + 1 = n) (g : Goes p e below s Q K N (T.setTop (mkF m n Ls (.int v :: rest)))) : Goes p e below s Q K N (T.setTop (mkF m pc Ls (.int x :: rest))) := by
  subst hn hv
  exact g.via fun t k => XS.ineg X.here hx rfl hd rfl k
theorem o_lneg (X : Stand p l e R s m args below meth c T locs cells slots) (hx : p.tables.exec = Jvm.exec) {x : Int64} {v : Int64} (hd : decode c.code pc = .ok (.lneg, 1)) (hv : -x = v) (hn : pc + 1 = n) (g : Goes p e below s Q K N (T.setTop (mkF m n Ls (.long v :: rest)))) : Goes p e below s Q K N (T.setTop (mkF m pc Ls (.long x :: rest))) := by
  subst hn hv
  exact g.via fun t k => XS.lneg X.here hx rfl hd rfl k
theorem o_lcmp (X : Stand p l e R s m args below meth c T locs cells slots) (hx : p.tables.exec = Jvm.exec) {x y : Int64} (hd : decode c.code pc = .ok (.lcmp, 1)) (hn : pc + 1 = n) (g : Goes p e below s Q K N (T.setTop (mkF m n Ls (.int (XT.cmpL x y) :: rest)))) : Goes p e below s Q K N (T.setTop (mkF m pc Ls (.long y :: .long x :: rest))) := by
  subst hn
  exact g.via fun t k => XT.lcmp X.here hx rfl hd rfl k
theorem o_dup (X : Stand p l e R s m args below meth c T locs cells slots) (hx : p.tables.exec = Jvm.exec) {v : Value} (hd : decode c.code pc = .ok (.dup, 1)) (hv : v.category = 1) (hn : pc + 1 = n) (g : Goes p e below s Q K N (T.setTop (mkF m n Ls (v :: v :: rest)))) : Goes p e below s Q K N (T.setTop (mkF m pc Ls (v :: rest))) := by
  subst hn
  exact g.via fun t k => XS.dup X.here hx rfl hd rfl hv k
theorem o_dup_x1 (X : Stand p l e R s m args below meth c T locs cells slots) (hx : p.tables.exec = Jvm.exec) {v w : Value} (hd : decode c.code pc = .ok (.dup_x1, 1)) (hv : v.category = 1) (hw : w.category = 1) (hn : pc + 1 = n) (g : Goes p e below s Q K N (T.setTop (mkF m n Ls (v :: w :: v :: rest)))) : Goes p e below s Q K N (T.setTop (mkF m pc Ls (v :: w :: rest))) := by
  subst hn
  exact g.via fun t k => XS.dupX1 X.here hx rfl hd rfl hv hw k
theorem o_dup2 (X : Stand p l e R s m args below meth c T locs cells slots) (hx : p.tables.exec = Jvm.exec) {v w : Value} (hd : decode c.code pc = .ok (.dup2, 1)) (hv : v.category = 1) (hw : w.category = 1) (hn : pc + 1 = n) (g : Goes p e below s Q K N (T.setTop (mkF m n Ls (v :: w :: v :: w :: rest)))) : Goes p e below s Q K N (T.setTop (mkF m pc Ls (v :: w :: rest))) := by
  subst hn
  exact g.via fun t k => XT.dup2 X.here hx rfl hd rfl hv hw k
theorem o_pop (X : Stand p l e R s m args below meth c T locs cells slots) (hx : p.tables.exec = Jvm.exec) {v : Value} (hd : decode c.code pc = .ok (.pop, 1)) (hv : v.category = 1) (hn : pc + 1 = n) (g : Goes p e below s Q K N (T.setTop (mkF m n Ls rest))) : Goes p e below s Q K N (T.setTop (mkF m pc Ls (v :: rest))) := by
  subst hn
  exact g.via fun t k => XS.pop X.here hx rfl hd rfl hv k
theorem o_goto (X : Stand p l e R s m args below meth c T locs cells slots) (hx : p.tables.exec = Jvm.exec) {o : Int} (hd : decode c.code pc = .ok (.goto o, 3)) (ho : 0 ≤ (pc : Int) + o) (hn : ((pc : Int) + o).toNat = n) (g : Goes p e below s Q K N (T.setTop (mkF m n Ls st))) : Goes p e below s Q K N (T.setTop (mkF m pc Ls st)) := by
  exact g.via fun t k => XS.goto X.here hx rfl rfl hd ho hn k
theorem o_ifY (X : Stand p l e R s m args below meth c T locs cells slots) (hx : p.tables.exec = Jvm.exec) {cd : ClassFile.Cond} {x : Int32} {o : Int} (hd : decode c.code pc = .ok (.ifCond cd o, 3)) (hc : ifCond.holds cd x = true) (ho : 0 ≤ (pc : Int) + o) (hn : ((pc : Int) + o).toNat = n) (g : Goes p e below s Q K N (T.setTop (mkF m n Ls rest))) : Goes p e below s Q K N (T.setTop (mkF m pc Ls (.int x :: rest))) := by
  exact g.via fun t k => XS.ifYes X.here hx rfl rfl hd rfl hc ho hn k
theorem o_ifN (X : Stand p l e R s m args below meth c T locs cells slots) (hx : p.tables.exec = Jvm.exec) {cd : ClassFile.Cond} {x : Int32} {o : Int} (hd : decode c.code pc = .ok (.ifCond cd o, 3)) (hc : ifCond.holds cd x = false) (hn : pc + 3 = n) (g : Goes p e below s Q K N (T.setTop (mkF m n Ls rest))) : Goes p e below s Q K N (T.setTop (mkF m pc Ls (.int x :: rest))) := by
  subst hn
  exact g.via fun t k => XS.ifNo X.here hx rfl hd rfl hc k
theorem o_icmpY (X : Stand p l e R s m args below meth c T locs cells slots) (hx : p.tables.exec = Jvm.exec) {cd : ClassFile.Cond} {x y : Int32} {o : Int} (hd : decode c.code pc = .ok (.if_icmp cd o, 3)) (hc : if_icmp.holds cd x y = true) (ho : 0 ≤ (pc : Int) + o) (hn : ((pc : Int) + o).toNat = n) (g : Goes p e below s Q K N (T.setTop (mkF m n Ls rest))) : Goes p e below s Q K N (T.setTop (mkF m pc Ls (.int y :: .int x :: rest))) := by
  exact g.via fun t k => XS.icmpYes X.here hx rfl rfl hd rfl hc ho hn k
theorem o_icmpN (X : Stand p l e R s m args below meth c T locs cells slots) (hx : p.tables.exec = Jvm.exec) {cd : ClassFile.Cond} {x y : Int32} {o : Int} (hd : decode c.code pc = .ok (.if_icmp cd o, 3)) (hc : if_icmp.holds cd x y = false) (hn : pc + 3 = n) (g : Goes p e below s Q K N (T.setTop (mkF m n Ls rest))) : Goes p e below s Q K N (T.setTop (mkF m pc Ls (.int y :: .int x :: rest))) := by
  subst hn
  exact g.via fun t k => XS.icmpNo X.here hx rfl hd rfl hc k
theorem o_ifnullY (X : Stand p l e R s m args below meth c T locs cells slots) (hx : p.tables.exec = Jvm.exec) {o : Int} (hd : decode c.code pc = .ok (.ifnull o, 3)) (ho : 0 ≤ (pc : Int) + o) (hn : ((pc : Int) + o).toNat = n) (g : Goes p e below s Q K N (T.setTop (mkF m n Ls rest))) : Goes p e below s Q K N (T.setTop (mkF m pc Ls (.null :: rest))) := by
  exact g.via fun t k => XS.ifnullYes X.here hx rfl rfl hd rfl ho hn k
theorem o_ifnullN (X : Stand p l e R s m args below meth c T locs cells slots) (hx : p.tables.exec = Jvm.exec) {o : Int} {a : Addr} (hd : decode c.code pc = .ok (.ifnull o, 3)) (hn : pc + 3 = n) (g : Goes p e below s Q K N (T.setTop (mkF m n Ls rest))) : Goes p e below s Q K N (T.setTop (mkF m pc Ls (.ref a :: rest))) := by
  subst hn
  exact g.via fun t k => XS.ifnullNo X.here hx rfl hd rfl k
theorem o_ifnonnullY (X : Stand p l e R s m args below meth c T locs cells slots) (hx : p.tables.exec = Jvm.exec) {o : Int} {a : Addr} (hd : decode c.code pc = .ok (.ifnonnull o, 3)) (ho : 0 ≤ (pc : Int) + o) (hn : ((pc : Int) + o).toNat = n) (g : Goes p e below s Q K N (T.setTop (mkF m n Ls rest))) : Goes p e below s Q K N (T.setTop (mkF m pc Ls (.ref a :: rest))) := by
  exact g.via fun t k => XS.ifnonnullYes X.here hx rfl rfl hd rfl ho hn k
theorem o_ifnonnullN (X : Stand p l e R s m args below meth c T locs cells slots) (hx : p.tables.exec = Jvm.exec) {o : Int} (hd : decode c.code pc = .ok (.ifnonnull o, 3)) (hn : pc + 3 = n) (g : Goes p e below s Q K N (T.setTop (mkF m n Ls rest))) : Goes p e below s Q K N (T.setTop (mkF m pc Ls (.null :: rest))) := by
  subst hn
  exact g.via fun t k => XS.ifnonnullNo X.here hx rfl hd rfl k
theorem o_acmp (X : Stand p l e R s m args below meth c T locs cells slots) (hx : p.tables.exec = Jvm.exec) {cd : ACond} {x y : Value} {o : Int} {same : Bool} (hd : decode c.code pc = .ok (.if_acmp cd o, 3)) (h1 : x.isRef = true) (h2 : y.isRef = true) (hq : decide (x = y) = same) (ho : 0 ≤ (pc : Int) + o) (hn : n = if acV cd same = true then ((pc : Int) + o).toNat else pc + 3) (g : Goes p e below s Q K N (T.setTop (mkF m n Ls rest))) : Goes p e below s Q K N (T.setTop (mkF m pc Ls (y :: x :: rest))) := by
  exact g.via fun t k => Jvm.RoadKit.acmp X hx (g := mkF m pc Ls _) rfl h1 h2 rfl hd rfl hq ho hn k
/-! the heap -/
theorem o_getfield (X : Stand p l e R s m args below meth c T locs cells slots) (hx : p.tables.exec = Jvm.exec) (hZ : Z.Warmed39 s.vm) {own R0 O nm d host : String} {index : Nat} (hown : s.vm.findClass own = some m.cls) (w : (Jvm.Cond.fieldLink own index R0 nm d).before a0 Z = true ∨ (Jvm.Cond.fieldLinkNest own index R0 nm d host).before a0 Z = true) (via : Via Z R0 O nm d) (eT : T.heap = h) {a : Addr} {v : Value} (F : Fld Z h a O nm d v)
    (hd : decode c.code pc = .ok (.getfield index, 3)) (hn : pc + 3 = n) (k : ∀ T', Stand p l e R s m args below meth c T' locs cells slots → T'.heap = h → Goes p e below s Q K N (T'.setTop (mkF m n Ls (v :: rest)))) : Goes p e below s Q K N (T.setTop (mkF m pc Ls (.ref a :: rest))) := by
  subst hn
  obtain ⟨T', X', e', st'⟩ := getF X hx hZ hown w via eT F (g := mkF m pc Ls (.ref a :: rest)) rfl rfl hd
  exact (k T' X' e').via st'
theorem o_putfield (X : Stand p l e R s m args below meth c T locs cells slots) (hx : p.tables.exec = Jvm.exec) (hZ : Z.Warmed39 s.vm) {own R0 O nm d host C : String} {index kk : Nat} {ty : FieldType} (hown : s.vm.findClass own = some m.cls) (w : (Jvm.Cond.fieldLink own index R0 nm d).before a0 Z = true ∨ (Jvm.Cond.fieldLinkNest own index R0 nm d host).before a0 Z = true) (via : Via Z R0 O nm d) (eT : T.heap = h) {a : Addr} {v old : Value} (F : Fld Z h a O nm d old) (E : Exa Z h a C)
    (L : (Jvm.Cond.lays C O nm d).before a0 Z = true ∨ ((Jvm.Cond.laysFinal C O nm d).before a0 Z = true ∧ own = O ∧ meth.name = "<init>")) (wi : (Jvm.Cond.instantiable C kk).before a0 Z = true) (hty : parseFieldDescriptor d = some ty) (hnn : narrow ty v = v) (hf : fits ty v = true) (hd : decode c.code pc = .ok (.putfield index, 3)) (hn : pc + 3 = n)
    (k : ∀ T' h', Stand p l e R s m args below meth c T' (locs ++ [⟨a, Jvm.RoadKit.slotOf Z O nm d⟩]) cells slots → T'.heap = h' → Wr h h' a (Jvm.RoadKit.slotOf Z O nm d) v → Fld Z h' a O nm d v → Exa Z h' a C → Goes p e below s Q K N (T'.setTop (mkF m n Ls rest))) : Goes p e below s Q K N (T.setTop (mkF m pc Ls (v :: .ref a :: rest))) := by
  subst hn
  obtain ⟨T', h', X', e', W, st'⟩ := putF X hx hZ hown w via eT F E L wi hty hnn hf (g := mkF m pc Ls (v :: .ref a :: rest)) rfl rfl hd
  exact (k T' h' X' e' W (F.same W) (E.wr W)).via st'
theorem o_getstatic (X : Stand p l e R s m args below meth c T locs cells slots) (hx : p.tables.exec = Jvm.exec) (hZ : Z.Warmed39 s.vm) {own R0 O nm d host : String} {index : Nat} (hown : s.vm.findClass own = some m.cls) (w : (Jvm.Cond.fieldLink own index R0 nm d).before a0 Z = true ∨ (Jvm.Cond.fieldLinkNest own index R0 nm d host).before a0 Z = true) (via : Via Z R0 O nm d) (eT : T.heap = h) {v : Value} (F : Sta Z h O nm d v)
    (hd : decode c.code pc = .ok (.getstatic index, 3)) (hn : pc + 3 = n) (k : ∀ T', Stand p l e R s m args below meth c T' locs cells slots → T'.heap = h → Goes p e below s Q K N (T'.setTop (mkF m n Ls (v :: st)))) : Goes p e below s Q K N (T.setTop (mkF m pc Ls st)) := by
  subst hn
  obtain ⟨T', X', e', st'⟩ := getS2 X hx hZ hown w via eT F (g := mkF m pc Ls st) rfl hd
  exact (k T' X' e').via st'
theorem o_new (X : Stand p l e R s m args below meth c T locs cells slots) (hx : p.tables.exec = Jvm.exec) (hZ : Z.Warmed39 s.vm) {own C : String} {index kk : Nat} (hown : s.vm.findClass own = some m.cls) (w : (Jvm.Cond.classLink own index C).before a0 Z = true) (wi : (Jvm.Cond.instantiable C kk).before a0 Z = true) (wz : (Jvm.Cond.initialized C).before a0 Z = true) (eT : T.heap = h)
    (hd : decode c.code pc = .ok (.new index, 3)) (hc : cells + 1 ≤ R.cells) (hs : slots + kk ≤ R.slots) (hn : pc + 3 = n)
    (k : ∀ T' h' a, Stand p l e R s m args below meth c T' locs (cells + 1) (slots + kk) → T'.heap = h' → a = h.size → Ext h h' → Exa Z h' a C → (∀ {O nm d : String} {ty : FieldType}, Laid Z a0 C O nm d → parseFieldDescriptor d = some ty → Fld Z h' a O nm d (defaultValue ty)) → Goes p e below s Q K N (T'.setTop (mkF m n Ls (.ref a :: st)))) : Goes p e below s Q K N (T.setTop (mkF m pc Ls st)) := by
  subst hn
  obtain ⟨T', h', X', e', E, A, D, -, st'⟩ := newO X hx hZ hown w wi wz eT (g := mkF m pc Ls st) rfl hd hc hs
  exact (k T' h' _ X' e' rfl E A D).via st'
theorem o_newarray (X : Stand p l e R s m args below meth c T locs cells slots) (hx : p.tables.exec = Jvm.exec) (hZ : Z.Warmed39 s.vm) {aty : ArrayType} (w : (Jvm.Cond.arrayClass (newarray.typeOf aty)).before a0 Z = true) (eT : T.heap = h) {z : Int32} (hd : decode c.code pc = .ok (.newarray aty, 2)) (hz : ¬ z < 0) (cap : Nat) (hcap : z.toNatClampNeg ≤ cap) (hb : cap * 8 ≤ 536870912) (hc : cells + 1 ≤ R.cells) (hs : slots + cap ≤ R.slots) (hn : pc + 2 = n)
    (k : ∀ T' h' a cA, Stand p l e R s m args below meth c T' locs (cells + 1) (slots + cap) → T'.heap = h' → a = h.size → Ext h h' → Arv Z h' a cA (newarray.typeOf aty) z [] (defaultValue (newarray.typeOf aty)) → Goes p e below s Q K N (T'.setTop (mkF m n Ls (.ref a :: rest)))) : Goes p e below s Q K N (T.setTop (mkF m pc Ls (.int z :: rest))) := by
  subst hn
  obtain ⟨T', h', cA, X', e', E, A, st'⟩ := newP X hx hZ w eT (g := mkF m pc Ls (.int z :: rest)) rfl hd rfl hz hcap hb hc hs
  exact (k T' h' _ cA X' e' rfl E (Arv.new A hz)).via st'
theorem o_arraylength (X : Stand p l e R s m args below meth c T locs cells slots) (hx : p.tables.exec = Jvm.exec) (hZ : Z.Warmed39 s.vm) (eT : T.heap = h) {a : Addr} {k : ClassId} {ty : FieldType} {z : Int32} {vs : List Value} {dv : Value} (V : Arv Z h a k ty z vs dv) (hd : decode c.code pc = .ok (.arraylength, 1)) (hn : pc + 1 = n) (g : Goes p e below s Q K N (T.setTop (mkF m n Ls (.int z :: rest)))) : Goes p e below s Q K N (T.setTop (mkF m pc Ls (.ref a :: rest))) := by
  subst hn
  obtain ⟨cl, A, -, S, M, -, -⟩ := V
  refine g.via fun t k => X.arraylength hx (by rw [eT]; exact A.1) (State.isArrayOf_alike hZ.alike A.2.1) (g := mkF m pc Ls (.ref a :: rest)) rfl rfl hd t ?_
  rw [len_of S M]; exact k
theorem o_iaload (X : Stand p l e R s m args below meth c T locs cells slots) (hx : p.tables.exec = Jvm.exec) (hZ : Z.Warmed39 s.vm) (eT : T.heap = h) {a : Addr} {k : ClassId} {z j : Int32} {vs : List Value} {dv v : Value} (V : Arv Z h a k .int z vs dv) (i : Nat) (hi : j.toNatClampNeg = i) (hj : ¬ j < 0 ∧ j < z) (hv : vs.getD i dv = v) (hd : decode c.code pc = .ok (.iaload, 1)) (hn : pc + 1 = n) (g : Goes p e below s Q K N (T.setTop (mkF m n Ls (v :: rest)))) : Goes p e below s Q K N (T.setTop (mkF m pc Ls (.int j :: .ref a :: rest))) := by
  subst hn hi
  obtain ⟨cl, A, -, S, M, H, -⟩ := V
  exact g.via fun t k => X.iaload hx (by rw [eT]; exact A.1) (State.isArrayOf_alike hZ.alike A.2.1) A.2.2 (inb_of S hj) (Has.at H (inb_of S hj) hv) (g := mkF m pc Ls (.int j :: .ref a :: rest)) rfl rfl hd t k
theorem o_laload (X : Stand p l e R s m args below meth c T locs cells slots) (hx : p.tables.exec = Jvm.exec) (hZ : Z.Warmed39 s.vm) (eT : T.heap = h) {a : Addr} {k : ClassId} {z j : Int32} {vs : List Value} {dv v : Value} (V : Arv Z h a k .long z vs dv) (i : Nat) (hi : j.toNatClampNeg = i) (hj : ¬ j < 0 ∧ j < z) (hv : vs.getD i dv = v) (hd : decode c.code pc = .ok (.laload, 1)) (hn : pc + 1 = n) (g : Goes p e below s Q K N (T.setTop (mkF m n Ls (v :: rest)))) : Goes p e below s Q K N (T.setTop (mkF m pc Ls (.int j :: .ref a :: rest))) := by
  subst hn hi
  obtain ⟨cl, A, -, S, M, H, -⟩ := V
  exact g.via fun t k => X.laload hx (by rw [eT]; exact A.1) (State.isArrayOf_alike hZ.alike A.2.1) A.2.2 (inb_of S hj) (Has.at H (inb_of S hj) hv) (g := mkF m pc Ls (.int j :: .ref a :: rest)) rfl rfl hd t k
theorem o_baload (X : Stand p l e R s m args below meth c T locs cells slots) (hx : p.tables.exec = Jvm.exec) (hZ : Z.Warmed39 s.vm) (eT : T.heap = h) {a : Addr} {k : ClassId} {z j : Int32} {vs : List Value} {dv v : Value} (V : Arv Z h a k .byte z vs dv) (i : Nat) (hi : j.toNatClampNeg = i) (hj : ¬ j < 0 ∧ j < z) (hv : vs.getD i dv = v) (hd : decode c.code pc = .ok (.baload, 1)) (hn : pc + 1 = n) (g : Goes p e below s Q K N (T.setTop (mkF m n Ls (v :: rest)))) : Goes p e below s Q K N (T.setTop (mkF m pc Ls (.int j :: .ref a :: rest))) := by
  subst hn hi
  obtain ⟨cl, A, -, S, M, H, -⟩ := V
  exact g.via fun t k => X.baloadBytes hx (by rw [eT]; exact A.1) (State.isArrayOf_alike hZ.alike A.2.1) A.2.2 (inb_of S hj) (Has.at H (inb_of S hj) hv) (g := mkF m pc Ls (.int j :: .ref a :: rest)) rfl rfl hd t k
theorem o_baloadZ (X : Stand p l e R s m args below meth c T locs cells slots) (hx : p.tables.exec = Jvm.exec) (hZ : Z.Warmed39 s.vm) (eT : T.heap = h) {a : Addr} {k : ClassId} {z j : Int32} {vs : List Value} {dv v : Value} (V : Arv Z h a k .boolean z vs dv) (i : Nat) (hi : j.toNatClampNeg = i) (hj : ¬ j < 0 ∧ j < z) (hv : vs.getD i dv = v) (hd : decode c.code pc = .ok (.baload, 1)) (hn : pc + 1 = n) (g : Goes p e below s Q K N (T.setTop (mkF m n Ls (v :: rest)))) : Goes p e below s Q K N (T.setTop (mkF m pc Ls (.int j :: .ref a :: rest))) := by
  subst hn hi
  obtain ⟨cl, A, -, S, M, H, -⟩ := V
  exact g.via fun t k => X.baloadBooleans hx (by rw [eT]; exact A.1) (State.isArrayOf_alike hZ.alike A.2.1) A.2.2 (inb_of S hj) (Has.at H (inb_of S hj) hv) (g := mkF m pc Ls (.int j :: .ref a :: rest)) rfl rfl hd t k
theorem o_aaload (X : Stand p l e R s m args below meth c T locs cells slots) (hx : p.tables.exec = Jvm.exec) (hZ : Z.Warmed39 s.vm) (eT : T.heap = h) {a : Addr} {k : ClassId} {ty : FieldType} {z j : Int32} {vs : List Value} {dv v : Value} (V : Arv Z h a k ty z vs dv) (hty : ty.isReference = true) (i : Nat) (hi : j.toNatClampNeg = i) (hj : ¬ j < 0 ∧ j < z) (hv : vs.getD i dv = v) (hd : decode c.code pc = .ok (.aaload, 1)) (hn : pc + 1 = n) (g : Goes p e below s Q K N (T.setTop (mkF m n Ls (v :: rest)))) : Goes p e below s Q K N (T.setTop (mkF m pc Ls (.int j :: .ref a :: rest))) := by
  subst hn hi
  obtain ⟨cl, A, -, S, M, H, -⟩ := V
  exact g.via fun t k => X.aaload hx (by rw [eT]; exact A.1) (State.isArrayOf_alike hZ.alike A.2.1) hty A.2.2 (inb_of S hj) (Has.at H (inb_of S hj) hv) (g := mkF m pc Ls (.int j :: .ref a :: rest)) rfl rfl hd t k
theorem o_iastore (X : Stand p l e R s m args below meth c T locs cells slots) (hx : p.tables.exec = Jvm.exec) (hZ : Z.Warmed39 s.vm) (eT : T.heap = h) {a : Addr} {k : ClassId} {z j : Int32} {x : Int32} {vs vs' : List Value} {dv w : Value} (V : Arv Z h a k .int z vs dv) (i : Nat) (hi : j.toNatClampNeg = i) (hj : ¬ j < 0 ∧ j < z) (hlen : i < vs.length) (hw : (.int x) = w) (hvs : vs.set i w = vs') (hd : decode c.code pc = .ok (.iastore, 1)) (hn : pc + 1 = n)
    (g : ∀ T' h', Stand p l e R s m args below meth c T' (locs ++ [⟨a, j.toNatClampNeg⟩]) cells slots → T'.heap = h' → Wr h h' a j.toNatClampNeg w → Arv Z h' a k .int z vs' dv → Goes p e below s Q K N (T'.setTop (mkF m n Ls rest))) : Goes p e below s Q K N (T.setTop (mkF m pc Ls (.int x :: .int j :: .ref a :: rest))) := by
  subst hn hvs hw
  obtain ⟨cl, A, q1, S, M, H, G⟩ := V
  obtain ⟨T', h', X', e', W, st'⟩ := stI X hx hZ eT A (j := j) (inb_of S hj) (g := mkF m pc Ls (.int x :: .int j :: .ref a :: rest)) rfl rfl hd
  exact (g T' h' X' e' W (Arv.set A q1 S M H G rfl W i hi hlen)).via st'
theorem o_lastore (X : Stand p l e R s m args below meth c T locs cells slots) (hx : p.tables.exec = Jvm.exec) (hZ : Z.Warmed39 s.vm) (eT : T.heap = h) {a : Addr} {k : ClassId} {z j : Int32} {x : Int64} {vs vs' : List Value} {dv w : Value} (V : Arv Z h a k .long z vs dv) (i : Nat) (hi : j.toNatClampNeg = i) (hj : ¬ j < 0 ∧ j < z) (hlen : i < vs.length) (hw : (.long x) = w) (hvs : vs.set i w = vs') (hd : decode c.code pc = .ok (.lastore, 1)) (hn : pc + 1 = n)
    (g : ∀ T' h', Stand p l e R s m args below meth c T' (locs ++ [⟨a, j.toNatClampNeg⟩]) cells slots → T'.heap = h' → Wr h h' a j.toNatClampNeg w → Arv Z h' a k .long z vs' dv → Goes p e below s Q K N (T'.setTop (mkF m n Ls rest))) : Goes p e below s Q K N (T.setTop (mkF m pc Ls (.long x :: .int j :: .ref a :: rest))) := by
  subst hn hvs hw
  obtain ⟨cl, A, q1, S, M, H, G⟩ := V
  obtain ⟨T', h', X', e', W, st'⟩ := stJ X hx hZ eT A (j := j) (inb_of S hj) (g := mkF m pc Ls (.long x :: .int j :: .ref a :: rest)) rfl rfl hd
  exact (g T' h' X' e' W (Arv.set A q1 S M H G rfl W i hi hlen)).via st'
theorem o_bastore (X : Stand p l e R s m args below meth c T locs cells slots) (hx : p.tables.exec = Jvm.exec) (hZ : Z.Warmed39 s.vm) (eT : T.heap = h) {a : Addr} {k : ClassId} {z j : Int32} {x : Int32} {vs vs' : List Value} {dv w : Value} (V : Arv Z h a k .byte z vs dv) (i : Nat) (hi : j.toNatClampNeg = i) (hj : ¬ j < 0 ∧ j < z) (hlen : i < vs.length) (hw : (.int (nar .byte x)) = w) (hvs : vs.set i w = vs') (hd : decode c.code pc = .ok (.bastore, 1)) (hn : pc + 1 = n)
    (g : ∀ T' h', Stand p l e R s m args below meth c T' (locs ++ [⟨a, j.toNatClampNeg⟩]) cells slots → T'.heap = h' → Wr h h' a j.toNatClampNeg w → Arv Z h' a k .byte z vs' dv → Goes p e below s Q K N (T'.setTop (mkF m n Ls rest))) : Goes p e below s Q K N (T.setTop (mkF m pc Ls (.int x :: .int j :: .ref a :: rest))) := by
  subst hn hvs hw
  obtain ⟨cl, A, q1, S, M, H, G⟩ := V
  obtain ⟨T', h', X', e', W, st'⟩ := stB X hx hZ eT A (j := j) (inb_of S hj) (g := mkF m pc Ls (.int x :: .int j :: .ref a :: rest)) rfl rfl hd
  exact (g T' h' X' e' W (Arv.set A q1 S M H G (fits_nar_byte x) W i hi hlen)).via st'
theorem o_bastoreZ (X : Stand p l e R s m args below meth c T locs cells slots) (hx : p.tables.exec = Jvm.exec) (hZ : Z.Warmed39 s.vm) (eT : T.heap = h) {a : Addr} {k : ClassId} {z j : Int32} {x : Int32} {vs vs' : List Value} {dv w : Value} (V : Arv Z h a k .boolean z vs dv) (i : Nat) (hi : j.toNatClampNeg = i) (hj : ¬ j < 0 ∧ j < z) (hlen : i < vs.length) (hw : (.int (nar .boolean x)) = w) (hvs : vs.set i w = vs') (hd : decode c.code pc = .ok (.bastore, 1)) (hn : pc + 1 = n)
    (g : ∀ T' h', Stand p l e R s m args below meth c T' (locs ++ [⟨a, j.toNatClampNeg⟩]) cells slots → T'.heap = h' → Wr h h' a j.toNatClampNeg w → Arv Z h' a k .boolean z vs' dv → Goes p e below s Q K N (T'.setTop (mkF m n Ls rest))) : Goes p e below s Q K N (T.setTop (mkF m pc Ls (.int x :: .int j :: .ref a :: rest))) := by
  subst hn hvs hw
  obtain ⟨cl, A, q1, S, M, H, G⟩ := V
  obtain ⟨T', h', X', e', W, st'⟩ := stZ X hx hZ eT A (j := j) (inb_of S hj) (g := mkF m pc Ls (.int x :: .int j :: .ref a :: rest)) rfl rfl hd
  exact (g T' h' X' e' W (Arv.set A q1 S M H G (fits_nar_bool x) W i hi hlen)).via st'

/-! calls -/
theorem o_initO (X : Stand p l e R s m args below meth c T locs cells slots) (hx : p.tables.exec = Jvm.exec) (hZ : Z.Warmed39 s.vm) {own : String} {idx : Nat} (hown : s.vm.findClass own = some m.cls) (w1 : (Jvm.Cond.methodLink own idx Lib.objectInit).before a0 Z = true) (w2 : (Jvm.Cond.instanceMethod Lib.objectInit).before a0 Z = true) (w3 : (Jvm.Cond.code Lib.objectInit ⟨#[0xb1]⟩ 1 none).before a0 Z = true) (eT : T.heap = h) (hsize : Ls.size = c.maxLocals) {a : Addr} (hd : decode c.code pc = .ok (.invokespecial idx, 3)) (hf : 1 ≤ R.frames) (W : Nat) (hW : (rest.map fun v => v.category).sum ≤ W) (hl : W + 12 ≤ R.locals) (hn : pc + 3 = n)
    (k : ∀ T', Stand p l e R s m args below meth c T' locs cells slots → T'.heap = h → Goes p e below s Q K N (T'.setTop (mkF m n Ls rest))) : Goes p e below s Q K N (T.setTop (mkF m pc Ls (.ref a :: rest))) := by
  subst hn
  obtain ⟨T', X', e', st'⟩ := initO X hx hZ hown w1 w2 w3 eT (g := mkF m pc Ls (.ref a :: rest)) rfl hsize rfl hd hf (W := W) (by show 2 * 0 + _ ≤ _; omega) hl
  exact (k T' X' e').via st'
theorem o_callS (X : Stand p l e R s m args below meth c T locs cells slots) (hx : p.tables.exec = Jvm.exec) (hZ : Z.Warmed39 s.vm) {own : String} {index : Nat} {y : MethodName} {bytes : ByteArray} {maxL : Nat} {ret : Option FieldType} {rm : Room} (hown : s.vm.findClass own = some m.cls) (w1 : (Jvm.Cond.methodLink own index y).before a0 Z = true) (w2 : (Jvm.Cond.static y).before a0 Z = true) (w3 : (Jvm.Cond.initialized y.cls).before a0 Z = true) (w4 : (Jvm.Cond.code y bytes maxL ret).before a0 Z = true) (hy : y.cls ≠ "java/lang/invoke/MethodHandle" ∧ y.cls ≠ "java/lang/invoke/VarHandle") (eT : T.heap = h)
    {argsL rest : List Value} {Q' : Option Value → Heap → List Loc → Prop} (hM : Does l Z y bytes maxL ret [] rm argsL.toArray h Q') (W : Nat) (hf : rm.frames + 1 ≤ R.frames) (hl : W + (maxL + 11) + rm.locals ≤ R.locals) (hc : cells + rm.cells ≤ R.cells) (hs : slots + rm.slots ≤ R.slots) (hsize : Ls.size = c.maxLocals) (hlen : ∀ sig, parseMethodDescriptor y.desc = some sig → argsL.length = sig.parameters.length) (hst : st = argsL.reverse ++ rest) (hW : (rest.map fun v => v.category).sum ≤ W) (hd : decode c.code pc = .ok (.invokestatic index, 3)) (hn : pc + 3 = n)
    (k : ∀ v T' L', Stand p l e R s m args below meth c T' (locs ++ L') (cells + rm.cells) (slots + rm.slots) → Q' v T'.heap L' → Goes p e below s Q K N (T'.setTop (mkF m n Ls (v.toList ++ rest)))) : Goes p e below s Q K N (T.setTop (mkF m pc Ls st)) := by
  subst hn
  obtain ⟨v, _, ⟨T', L, kk, nn⟩, -, X', ⟨Lc, hQ, l', y', z'⟩, st'⟩ := Jvm.LawKit.callS X hx (y := y) hown (mvT hZ w1) (mvT hZ w2) (mvT hZ w3) (mvT hZ w4) hy (backOf (W := W) hM hZ w4 w3 hf hl) (g := mkF m pc Ls st) rfl hsize (argsL := argsL) (rest := rest) hlen hst (by show 2 * 0 + _ ≤ _; omega) hd (fun _ _ => ⟨rfl, eT, hc, hs⟩)
  dsimp only [Pt.U, Pt.locs, Pt.cells, Pt.slots] at X' l' y' z' st' hQ
  subst l' y' z'
  exact (k v T' Lc X' hQ).via st'
theorem o_callN (X : Stand p l e R s m args below meth c T locs cells slots) (hx : p.tables.exec = Jvm.exec) (hZ : Z.Warmed39 s.vm) {own : String} {index : Nat} {y : MethodName} {bytes : ByteArray} {maxL : Nat} {rm : Room} (hy1 : y.name = "<init>") (hown : s.vm.findClass own = some m.cls) (w1 : (Jvm.Cond.methodLink own index y).before a0 Z = true) (w2 : (Jvm.Cond.instanceMethod y).before a0 Z = true) (w3 : (Jvm.Cond.initialized y.cls).before a0 Z = true) (w4 : (Jvm.Cond.code y bytes maxL none).before a0 Z = true) (hy : y.cls ≠ "java/lang/invoke/MethodHandle" ∧ y.cls ≠ "java/lang/invoke/VarHandle") (eT : T.heap = h)
    {a : Addr} {argsL rest : List Value} {Q' : Option Value → Heap → List Loc → Prop} (hM : Does l Z y bytes maxL none [] rm (.ref a :: argsL).toArray h Q') (W : Nat) (hf : rm.frames + 1 ≤ R.frames) (hl : W + (maxL + 11) + rm.locals ≤ R.locals) (hc : cells + rm.cells ≤ R.cells) (hs : slots + rm.slots ≤ R.slots) (hsize : Ls.size = c.maxLocals) (hlen : ∀ sig, parseMethodDescriptor y.desc = some sig → argsL.length = sig.parameters.length) (hst : st = argsL.reverse ++ .ref a :: rest) (hW : (rest.map fun v => v.category).sum ≤ W) (hd : decode c.code pc = .ok (.invokespecial index, 3)) (hn : pc + 3 = n)
    (k : ∀ v T' L', Stand p l e R s m args below meth c T' (locs ++ L') (cells + rm.cells) (slots + rm.slots) → Q' v T'.heap L' → Goes p e below s Q K N (T'.setTop (mkF m n Ls (v.toList ++ rest)))) : Goes p e below s Q K N (T.setTop (mkF m pc Ls st)) := by
  subst hn
  obtain ⟨v, _, ⟨T', L, kk, nn⟩, -, X', ⟨Lc, hQ, l', y', z'⟩, st'⟩ := X.specialBack hx (y := y) hy1 hown (mvT hZ w1) (mvT hZ w2) (mvT hZ w4) hy (backOf (W := W) hM hZ w4 w3 hf hl) (g := mkF m pc Ls st) rfl hsize (Steps.refl _) (a := a) (argsL := argsL) (rest := rest) hlen hst (by show 2 * 0 + _ ≤ _; omega) hd (fun _ _ => ⟨rfl, eT, hc, hs⟩)
  dsimp only [Pt.U, Pt.locs, Pt.cells, Pt.slots] at X' l' y' z' st' hQ
  subst l' y' z'
  exact (k v T' Lc X' hQ).via fun t q => st'.trans q
theorem o_callV (X : Stand p l e R s m args below meth c T locs cells slots) (hx : p.tables.exec = Jvm.exec) (hZ : Z.Warmed39 s.vm) {own C : String} {index : Nat} {y : MethodName} {bytes : ByteArray} {maxL : Nat} {ret : Option FieldType} {rm : Room} (hown : s.vm.findClass own = some m.cls) (w1 : (Jvm.Cond.methodLink own index y).before a0 Z = true) (w2 : (Jvm.Cond.declares y).before a0 Z = true) (w5 : (Jvm.Cond.selects C y y).before a0 Z = true) (w6 : (Jvm.Cond.instanceMethod y).before a0 Z = true) (w3 : (Jvm.Cond.initialized y.cls).before a0 Z = true) (w4 : (Jvm.Cond.code y bytes maxL ret).before a0 Z = true) (hy : y.cls ≠ "java/lang/invoke/MethodHandle" ∧ y.cls ≠ "java/lang/invoke/VarHandle") (eT : T.heap = h)
    {a : Addr} (E : Exa Z h a C) {argsL rest : List Value} {Q' : Option Value → Heap → List Loc → Prop} (hM : Does l Z y bytes maxL ret [] rm (.ref a :: argsL).toArray h Q') (W : Nat) (hf : rm.frames + 1 ≤ R.frames) (hl : W + (maxL + 11) + rm.locals ≤ R.locals) (hc : cells + rm.cells ≤ R.cells) (hs : slots + rm.slots ≤ R.slots) (hsize : Ls.size = c.maxLocals) (hlen : ∀ sig, parseMethodDescriptor y.desc = some sig → argsL.length = sig.parameters.length) (hst : st = argsL.reverse ++ .ref a :: rest) (hW : (rest.map fun v => v.category).sum ≤ W) (hd : decode c.code pc = .ok (.invokevirtual index, 3)) (hn : pc + 3 = n)
    (k : ∀ v T' L', Stand p l e R s m args below meth c T' (locs ++ L') (cells + rm.cells) (slots + rm.slots) → Q' v T'.heap L' → Goes p e below s Q K N (T'.setTop (mkF m n Ls (v.toList ++ rest)))) : Goes p e below s Q K N (T.setTop (mkF m pc Ls st)) := by
  subst hn
  obtain ⟨cq, kq, qa, qb, qc⟩ := isOf hZ eT E
  obtain ⟨v, _, ⟨T', L, kk, nn⟩, -, X', ⟨Lc, hQ, l', y', z'⟩, st'⟩ := X.virtualBack hx (y := y) (z := y) hown (mvT hZ w1) (mvT hZ w2) (notFace_of_selects (args := #[]) (mvT hZ w5)) (mvT hZ w5) (mvT hZ w6) hy (backOf (W := W) hM hZ w4 w3 hf hl) qa qc (g := mkF m pc Ls st) rfl hsize (Steps.refl _) (argsL := argsL) (rest := rest) hlen hst (by show 2 * 0 + _ ≤ _; omega) hd (fun _ _ => ⟨rfl, eT, hc, hs⟩)
  dsimp only [Pt.U, Pt.locs, Pt.cells, Pt.slots] at X' l' y' z' st' hQ
  subst l' y' z'
  exact (k v T' Lc X' hQ).via fun t q => st'.trans q
/-- a private method is the one that is selected -/
theorem o_selpriv {y : MethodName} {kk : Nat} (hy : y.cls ≠ "java/lang/invoke/MethodHandle" ∧ y.cls ≠ "java/lang/invoke/VarHandle") (hins : (Jvm.Cond.instantiable y.cls kk).before args s = true) (hpriv : (Jvm.Cond.privateMethod y).before args s = true) (hinst : (Jvm.Cond.instanceMethod y).before args s = true) : (Jvm.Cond.selects y.cls y y).before args s = true := by
  obtain ⟨c, k, hc, hk, -, hniab, -, -⟩ := Cond.instantiable_spec hins
  have hni : k.isInterface = false := (Bool.or_eq_false_iff.mp hniab).1
  obtain ⟨mk, methM, hnamed, hmethM, -, -⟩ := Cond.instanceMethod_spec hinst
  have hfound : s.methodFound? y.cls y.name y.desc = some mk := State.methodFound?_of_named hnamed hy
  have hcls : mk.cls = c := Option.some.inj ((findClass_of_methodNamed hnamed).symm.trans hc)
  have hsel : selectMethod {} s.vm c mk = .method mk := selectMethod_private hmethM (Cond.privateMethod_at hpriv mk methM hnamed hmethM)
  simp only [Cond.before, Cond.holds, Cond.value, hc, hfound, hnamed, hsel, hcls, hk]
  simp; exact hni
theorem o_callP (X : Stand p l e R s m args below meth c T locs cells slots) (hx : p.tables.exec = Jvm.exec) (hZ : Z.Warmed39 s.vm) {own C : String} {index kk : Nat} {y : MethodName} {bytes : ByteArray} {maxL : Nat} {ret : Option FieldType} {rm : Room} (hown : s.vm.findClass own = some m.cls) (w1 : (Jvm.Cond.methodLink own index y).before a0 Z = true) (w6 : (Jvm.Cond.instanceMethod y).before a0 Z = true) (w5 : (Jvm.Cond.privateMethod y).before a0 Z = true) (wi : (Jvm.Cond.instantiable y.cls kk).before a0 Z = true) (w3 : (Jvm.Cond.initialized y.cls).before a0 Z = true) (w4 : (Jvm.Cond.code y bytes maxL ret).before a0 Z = true) (hy : y.cls ≠ "java/lang/invoke/MethodHandle" ∧ y.cls ≠ "java/lang/invoke/VarHandle") (eT : T.heap = h)
    {a : Addr} (E : Exa Z h a C) {argsL rest : List Value} {Q' : Option Value → Heap → List Loc → Prop} (hM : Does l Z y bytes maxL ret [] rm (.ref a :: argsL).toArray h Q') (W : Nat) (hf : rm.frames + 1 ≤ R.frames) (hl : W + (maxL + 11) + rm.locals ≤ R.locals) (hc : cells + rm.cells ≤ R.cells) (hs : slots + rm.slots ≤ R.slots) (hsize : Ls.size = c.maxLocals) (hlen : ∀ sig, parseMethodDescriptor y.desc = some sig → argsL.length = sig.parameters.length) (hst : st = argsL.reverse ++ .ref a :: rest) (hW : (rest.map fun v => v.category).sum ≤ W) (hd : decode c.code pc = .ok (.invokevirtual index, 3)) (hn : pc + 3 = n)
    (k : ∀ v T' L', Stand p l e R s m args below meth c T' (locs ++ L') (cells + rm.cells) (slots + rm.slots) → Q' v T'.heap L' → Goes p e below s Q K N (T'.setTop (mkF m n Ls (v.toList ++ rest)))) : Goes p e below s Q K N (T.setTop (mkF m pc Ls st)) := by
  subst hn
  obtain ⟨cl, hcl, hob⟩ := E.cell
  obtain ⟨v, _, ⟨T', L, kk, nn⟩, -, X', ⟨Lc, hQ, l', y', z'⟩, st'⟩ := X.privateBack hx (y := y) hown (mvT hZ w1) (mvT hZ w6) (o_selpriv hy (mvT hZ wi) (mvP hZ w5) (mvT hZ w6)) (Cond.privateMethod_at (mvP hZ w5 (args := #[]))) (mvT hZ w4) hy (backOf (W := W) hM hZ w4 w3 hf hl) (g := mkF m pc Ls st) rfl hsize (Steps.refl _) (a := a) (by rw [eT]; exact hcl) hob (argsL := argsL) (rest := rest) hlen hst (by show 2 * 0 + _ ≤ _; omega) hd (fun _ _ => ⟨rfl, eT, hc, hs⟩)
  dsimp only [Pt.U, Pt.locs, Pt.cells, Pt.slots] at X' l' y' z' st' hQ
  subst l' y' z'
  exact (k v T' Lc X' hQ).via fun t q => st'.trans q
/-! returns -/
theorem o_retW (X : Stand p l e R s m args below meth c T locs cells slots) (hx : p.tables.exec = Jvm.exec) {t : FieldType} {w : Value} {i : Instr} (hret : meth.sig.returnType = some t) (hlk : meth.locks = false) (hnw : narrow t w = w)
    (hi : (i = .ireturn ∧ (t = .int ∨ t = .boolean ∨ t = .byte ∨ t = .char ∨ t = .short) ∧ ∃ z, w = .int z) ∨ (i = .lreturn ∧ t = .long ∧ ∃ z, w = .long z) ∨ (i = .dreturn ∧ t = .double ∧ ∃ z, w = .double z) ∨ (i = .freturn ∧ t = .float ∧ ∃ z, w = .float z) ∨ (i = .areturn ∧ t.isReference = true ∧ w.isRef = true))
    (hd : decode c.code pc = .ok (i, 1)) (hc : cells ≤ K) (hs : slots ≤ N) (eT : T.heap = h) (hQ : Q (some w) h locs) : Goes p e below s Q K N (T.setTop (mkF m pc Ls (w :: rest))) := by
  subst eT
  obtain ⟨fs, hr, hrun, hended, hW, hsame⟩ := X.leave (v := some w) (fun q => by rw [hret] at q; cases q) hlk
  exact ⟨_, _, retOut X hx hret hnw hi hd hr, hrun, hended, _, _, rfl, hQ, ⟨_, rfl⟩, hW, hsame.mono hc hs⟩
theorem o_ireturn (X : Stand p l e R s m args below meth c T locs cells slots) (hx : p.tables.exec = Jvm.exec) {x : Int32} (hret : meth.sig.returnType = some .int) (hlk : meth.locks = false) (hd : decode c.code pc = .ok (.ireturn, 1)) (hc : cells ≤ K) (hs : slots ≤ N) (eT : T.heap = h) (hQ : Q (some (.int x)) h locs) : Goes p e below s Q K N (T.setTop (mkF m pc Ls (.int x :: rest))) := o_retW X hx hret hlk rfl (Or.inl ⟨rfl, Or.inl rfl, x, rfl⟩) hd hc hs eT hQ
theorem o_lreturn (X : Stand p l e R s m args below meth c T locs cells slots) (hx : p.tables.exec = Jvm.exec) {x : Int64} (hret : meth.sig.returnType = some .long) (hlk : meth.locks = false) (hd : decode c.code pc = .ok (.lreturn, 1)) (hc : cells ≤ K) (hs : slots ≤ N) (eT : T.heap = h) (hQ : Q (some (.long x)) h locs) : Goes p e below s Q K N (T.setTop (mkF m pc Ls (.long x :: rest))) := o_retW X hx hret hlk rfl (Or.inr (Or.inl ⟨rfl, rfl, x, rfl⟩)) hd hc hs eT hQ
theorem o_areturn (X : Stand p l e R s m args below meth c T locs cells slots) (hx : p.tables.exec = Jvm.exec) {t : FieldType} {w : Value} (hret : meth.sig.returnType = some t) (hlk : meth.locks = false) (ht : t.isReference = true) (hw : w.isRef = true) (hd : decode c.code pc = .ok (.areturn, 1)) (hc : cells ≤ K) (hs : slots ≤ N) (eT : T.heap = h) (hQ : Q (some w) h locs) : Goes p e below s Q K N (T.setTop (mkF m pc Ls (w :: rest))) := o_retW X hx hret hlk (by cases t <;> first | rfl | cases ht) (Or.inr (Or.inr (Or.inr (Or.inr ⟨rfl, ht, hw⟩)))) hd hc hs eT hQ
/-- a boolean, byte, char or short: narrowed -/
theorem o_nreturn (X : Stand p l e R s m args below meth c T locs cells slots) (hx : p.tables.exec = Jvm.exec) {t : FieldType} {x : Int32} (hret : meth.sig.returnType = some t) (hlk : meth.locks = false) (ht : t = .boolean ∨ t = .byte ∨ t = .char ∨ t = .short) (hd : decode c.code pc = .ok (.ireturn, 1)) (hc : cells ≤ K) (hs : slots ≤ N) (eT : T.heap = h) (hQ : Q (some (.int (nar t x))) h locs) : Goes p e below s Q K N (T.setTop (mkF m pc Ls (.int x :: rest))) := by
  subst eT
  obtain ⟨fs, hr, hrun, hended, hW, hsame⟩ := X.leave (v := some (.int (nar t x))) (fun q => by rw [hret] at q; cases q) hlk
  exact ⟨_, _, retN X hx hret ht hd hr, hrun, hended, _, _, rfl, hQ, ⟨_, rfl⟩, hW, hsame.mono hc hs⟩
theorem o_return (X : Stand p l e R s m args below meth c T locs cells slots) (hx : p.tables.exec = Jvm.exec) (hret : meth.sig.returnType = none) (hlk : meth.locks = false) (hd : decode c.code pc = .ok (.return_, 1)) (hc : cells ≤ K) (hs : slots ≤ N) (eT : T.heap = h) (hQ : Q none h locs) : Goes p e below s Q K N (T.setTop (mkF m pc Ls [])) := by
  subst eT
  obtain ⟨fs, hr, hrun, hended, hW, hsame⟩ := X.leave (v := none) (fun _ => rfl) hlk
  exact ⟨_, _, X.returnOut hx hret hd hr, hrun, hended, _, _, rfl, hQ, ⟨_, rfl⟩, hW, hsame.mono hc hs⟩
/-- what a call that writes nothing promises -/
def Pur (h0 : Heap) (w : Value) (v : Option Value) (h : Heap) (L : List Loc) : Prop := v = some w ∧ h = h0 ∧ L = []
end Layer

theorem o_nz1 : nar .boolean (1 : Int32) = 1 := by decide
theorem o_nz0 : nar .boolean (0 : Int32) = 0 := by decide
theorem o_nar8 (x : Int32) : nar .byte x.toInt8.toInt32 = x.toInt8.toInt32 := by simp [nar]

theorem o_and7 (x : Int32) : x &&& 7 = 0 ∨ x &&& 7 = 1 ∨ x &&& 7 = 2 ∨ x &&& 7 = 3 ∨ x &&& 7 = 4 ∨ x &&& 7 = 5 ∨ x &&& 7 = 6 ∨ x &&& 7 = 7 := by
  have h := c_mask x 7 3 (by decide) (by decide)
  have e0 : (0 : Int32).toInt = 0 := rfl
  have e1 : (1 : Int32).toInt = 1 := rfl
  have e2 : (2 : Int32).toInt = 2 := rfl
  have e3 : (3 : Int32).toInt = 3 := rfl
  have e4 : (4 : Int32).toInt = 4 := rfl
  have e5 : (5 : Int32).toInt = 5 := rfl
  have e6 : (6 : Int32).toInt = 6 := rfl
  have e7 : (7 : Int32).toInt = 7 := rfl
  simp only [← Int32.toInt_inj]
  omega
theorem o_len {args : Array Value} {Z : State} {t : Term} {a : Addr} {cl : Cell} {ty : FieldType} {n : Int32} (ht : t.eval args Z none [] Z = some (.ref a)) (A : Arr Z Z.heap a cl ty) (h : (Jvm.Cond.eq (Term.length t) (Term.int n)).value args Z none Z [] = some true) : cl.slots.size < 2 ^ 31 ∧ cl.slots.size.toInt32 = n := by
  have hA := A.fin (Vm.Alike.refl Z.vm)
  by_cases q : cl.slots.size < 2 ^ 31
  · refine ⟨q, ?_⟩
    have e := len_f (args := args) (first := Z) (o := none) (idx := []) ht hA q
    obtain ⟨x, y, e1, e2, k1, k2⟩ := cmp_v (Or.inl h)
    have q : (Jvm.Cond.eq (Term.length t) (Term.int n)).value args Z none Z [] = some (decide (cl.slots.size.toInt32 = n)) := by simp [Cond.value, e, Term.int_eval n]
    exact gotT q h
  · obtain ⟨x, y, e1, e2, k1, k2⟩ := cmp_v (Or.inl h)
    simp [Term.eval, ht, hA, q] at e1
theorem o_elem {args : Array Value} {Z : State} {t u : Term} {a x : Addr} {cl : Cell} {ty : FieldType} {n : Int32} (ht : t.eval args Z none [] Z = some (.ref a)) (A : Arr Z Z.heap a cl ty) (hu : u.eval args Z none [] Z = some (.ref x)) (h : (Jvm.Cond.eq (Term.elem t (Term.int n)) u).value args Z none Z [] = some true) : cl.slots[n.toNatClampNeg]? = some (.ref x) := by
  obtain ⟨v, y, e1, e2, k1, k2⟩ := cmp_v (Or.inl h)
  cases hu.symm.trans e2
  have hv : v.isRef = true := by cases v <;> simp_all [Kin, Value.isRef]
  have q := gotT (eq_R e1 hu hv rfl) h
  subst q
  exact (elem_in e1 ht (Term.int_eval n) A.1).2
theorem o_fld {args : Array Value} {Z : State} {t : Term} {a : Addr} {C f : String} {n : Int32} (ht : t.eval args Z none [] Z = some (.ref a)) (h : (Jvm.Cond.eq (Term.field t C f "I") (Term.int n)).value args Z none Z [] = some true) : Fld Z Z.heap a C f "I" (.int n) := by
  obtain ⟨v, y, e1, e2, k1, k2⟩ := cmp_v (Or.inl h)
  cases (Term.int_eval n).symm.trans e2
  obtain ⟨z, rfl⟩ : ∃ z, v = .int z := k2
  have q : z = n := gotT (show (Jvm.Cond.eq (Term.field t C f "I") (Term.int n)).value args Z none Z [] = some (decide (z = n)) by simp [Cond.value, e1, Term.int_eval n]) h
  subst q
  exact Fld.start ((fld_at ht).symm.trans e1)

theorem d_method_2_code_0 : decode method_2_code 0 = .ok (.iload_n 0, 1) := by decide +kernel
theorem d_method_2_code_1 : decode method_2_code 1 = .ok (.ifCond .ne 7, 3) := by decide +kernel
theorem d_method_2_code_4 : decode method_2_code 4 = .ok (.getstatic 7, 3) := by decide +kernel
theorem d_method_2_code_7 : decode method_2_code 7 = .ok (.areturn, 1) := by decide +kernel
theorem o_ef1 (m : MethodId)  : entryFrame m #[(.int (0 : Int32))] 1 = mkF m 0 #[.val (.int (0 : Int32))] [] := by first | (simp [entryFrame, mkF, argsToLocals, Value.category]; done) | rfl
theorem o_pn0 : plainName "com/example/codicil/codicil/FieldKindForCodePinLaw" = true := by first | (simp [plainName, overriddenIn]; done) | decide +kernel
set_option maxRecDepth 65536 in
set_option maxHeartbeats 40000000 in
theorem c_exp_0 (l : Launch) (Z : State) (a0 : Array Value) (hw : ∀ d ∈ tables_1, d.before a0 Z = true) (s : Addr) (h0 : Heap) (pS_INT : Sta Z h0 "com/example/codicil/codicil/FieldKind" "INT" "Lcom/example/codicil/codicil/FieldKind;" (.ref s)) :
    Does l Z (⟨"com/example/codicil/codicil/FieldKindForCodePinLaw", "expected", "(I)Lcom/example/codicil/codicil/FieldKind;"⟩ : MethodName) method_2_code 1 (some (.object "com/example/codicil/codicil/FieldKind")) [] ({ frames := 0, cells := 0, slots := 0, locals := 0 } : Room) #[(.int (0 : Int32))] h0 (Pur h0 (.ref s)) := by
  refine Does.of (plainFor_of_name o_pn0) ?_
  intro p e s m below meth c T0 hx hby hml hown hnm hret hlk hZ X0 e0
  have hown : s.vm.findClass "com/example/codicil/codicil/FieldKindForCodePinLaw" = some m.cls := hown
  have hml : c.maxLocals = 1 := hml
  have hret : meth.sig.returnType = some (.object "com/example/codicil/codicil/FieldKind") := hret
  refine o_entry (o_ef1 m ) ?_
  refine o_iloadN X0 hx (hb hby d_method_2_code_0) (v := (0 : Int32)) rfl (n := 1) rfl ?_
  refine o_ifN X0 hx (hb hby d_method_2_code_1) (XT.i0_ne_f (by decide)) (n := 4) rfl ?_
  refine o_getstatic X0 hx hZ hown (host := "") (Or.inl (hw _ (List.mem_of_getElem? (i := 4) rfl))) Via.refl e0 pS_INT (hb hby d_method_2_code_4) (n := 7) rfl ?_
  intro T1 X1 e1
  exact o_areturn X1 hx hret hlk rfl rfl (hb hby d_method_2_code_7) (by decide) (by decide) e1 ⟨rfl, rfl, rfl⟩
theorem d_prog_8_method_5_code_0 : decode prog_8_method_5_code 0 = .ok (.iload_n 0, 1) := by decide +kernel
theorem d_prog_8_method_5_code_1 : decode prog_8_method_5_code 1 = .ok (.ifCond .lt 11, 3) := by decide +kernel
theorem d_prog_8_method_5_code_4 : decode prog_8_method_5_code 4 = .ok (.iload_n 0, 1) := by decide +kernel
theorem d_prog_8_method_5_code_5 : decode prog_8_method_5_code 5 = .ok (.getstatic 51, 3) := by decide +kernel
theorem d_prog_8_method_5_code_8 : decode prog_8_method_5_code 8 = .ok (.arraylength, 1) := by decide +kernel
theorem d_prog_8_method_5_code_9 : decode prog_8_method_5_code 9 = .ok (.if_icmp .lt 17, 3) := by decide +kernel
theorem d_prog_8_method_5_code_26 : decode prog_8_method_5_code 26 = .ok (.getstatic 51, 3) := by decide +kernel
theorem d_prog_8_method_5_code_29 : decode prog_8_method_5_code 29 = .ok (.iload_n 0, 1) := by decide +kernel
theorem d_prog_8_method_5_code_30 : decode prog_8_method_5_code 30 = .ok (.aaload, 1) := by decide +kernel
theorem d_prog_8_method_5_code_31 : decode prog_8_method_5_code 31 = .ok (.areturn, 1) := by decide +kernel
theorem o_ef2 (m : MethodId)  : entryFrame m #[(.int (0 : Int32))] 1 = mkF m 0 #[.val (.int (0 : Int32))] [] := by first | (simp [entryFrame, mkF, argsToLocals, Value.category]; done) | rfl
theorem o_pn1 : plainName "com/example/codicil/codicil/FieldKind" = true := by first | (simp [plainName, overriddenIn]; done) | decide +kernel
set_option maxRecDepth 65536 in
set_option maxHeartbeats 40000000 in
theorem c_for_0 (l : Launch) (Z : State) (a0 : Array Value) (hw : ∀ d ∈ tables_1, d.before a0 Z = true) (b : Addr) (kb : ClassId) (s0 : Addr) (s1 : Addr) (s2 : Addr) (s3 : Addr) (s4 : Addr) (s5 : Addr) (s6 : Addr) (s7 : Addr) (h0 : Heap) (pS_BY_CODE : Sta Z h0 "com/example/codicil/codicil/FieldKind" "BY_CODE" "[Lcom/example/codicil/codicil/FieldKind;" (.ref b)) (pV_b : Arv Z h0 b kb (.object "com/example/codicil/codicil/FieldKind") (8 : Int32) [(.ref s0), (.ref s1), (.ref s2), (.ref s3), (.ref s4), (.ref s5), (.ref s6), (.ref s7)] .null) :
    Does l Z (⟨"com/example/codicil/codicil/FieldKind", "forCode", "(I)Lcom/example/codicil/codicil/FieldKind;"⟩ : MethodName) prog_8_method_5_code 1 (some (.object "com/example/codicil/codicil/FieldKind")) [] ({ frames := 0, cells := 0, slots := 0, locals := 0 } : Room) #[(.int (0 : Int32))] h0 (Pur h0 (.ref s0)) := by
  refine Does.of (plainFor_of_name o_pn1) ?_
  intro p e s m below meth c T0 hx hby hml hown hnm hret hlk hZ X0 e0
  have hown : s.vm.findClass "com/example/codicil/codicil/FieldKind" = some m.cls := hown
  have hml : c.maxLocals = 1 := hml
  have hret : meth.sig.returnType = some (.object "com/example/codicil/codicil/FieldKind") := hret
  refine o_entry (o_ef2 m ) ?_
  refine o_iloadN X0 hx (hb hby d_prog_8_method_5_code_0) (v := (0 : Int32)) rfl (n := 1) rfl ?_
  refine o_ifN X0 hx (hb hby d_prog_8_method_5_code_1) (XT.i0_lt_f (by decide)) (n := 4) rfl ?_
  refine o_iloadN X0 hx (hb hby d_prog_8_method_5_code_4) (v := (0 : Int32)) rfl (n := 5) rfl ?_
  refine o_getstatic X0 hx hZ hown (host := "") (Or.inl (hw _ (List.mem_of_getElem? (i := 10) rfl))) Via.refl e0 pS_BY_CODE (hb hby d_prog_8_method_5_code_5) (n := 8) rfl ?_
  intro T1 X1 e1
  refine o_arraylength X1 hx hZ e1 pV_b (hb hby d_prog_8_method_5_code_8) (n := 9) rfl ?_
  refine o_icmpY X1 hx (hb hby d_prog_8_method_5_code_9) (XT.ii_lt_t (by decide)) (by decide) (n := 26) (by decide) ?_
  refine o_getstatic X1 hx hZ hown (host := "") (Or.inl (hw _ (List.mem_of_getElem? (i := 10) rfl))) Via.refl e1 pS_BY_CODE (hb hby d_prog_8_method_5_code_26) (n := 29) rfl ?_
  intro T2 X2 e2
  refine o_iloadN X2 hx (hb hby d_prog_8_method_5_code_29) (v := (0 : Int32)) rfl (n := 30) rfl ?_
  refine o_aaload X2 hx hZ e2 pV_b rfl (0) (by decide) (by decide) (v := (.ref s0)) rfl (hb hby d_prog_8_method_5_code_30) (n := 31) rfl ?_
  exact o_areturn X2 hx hret hlk rfl rfl (hb hby d_prog_8_method_5_code_31) (by decide) (by decide) e2 ⟨rfl, rfl, rfl⟩
theorem d_method_2_code_8 : decode method_2_code 8 = .ok (.iload_n 0, 1) := by decide +kernel
theorem d_method_2_code_9 : decode method_2_code 9 = .ok (.iconst 1, 1) := by decide +kernel
theorem d_method_2_code_10 : decode method_2_code 10 = .ok (.if_icmp .ne 7, 3) := by decide +kernel
theorem d_method_2_code_13 : decode method_2_code 13 = .ok (.getstatic 13, 3) := by decide +kernel
theorem d_method_2_code_16 : decode method_2_code 16 = .ok (.areturn, 1) := by decide +kernel
theorem o_ef3 (m : MethodId)  : entryFrame m #[(.int (1 : Int32))] 1 = mkF m 0 #[.val (.int (1 : Int32))] [] := by first | (simp [entryFrame, mkF, argsToLocals, Value.category]; done) | rfl
set_option maxRecDepth 65536 in
set_option maxHeartbeats 40000000 in
theorem c_exp_1 (l : Launch) (Z : State) (a0 : Array Value) (hw : ∀ d ∈ tables_1, d.before a0 Z = true) (s : Addr) (h0 : Heap) (pS_LONG : Sta Z h0 "com/example/codicil/codicil/FieldKind" "LONG" "Lcom/example/codicil/codicil/FieldKind;" (.ref s)) :
    Does l Z (⟨"com/example/codicil/codicil/FieldKindForCodePinLaw", "expected", "(I)Lcom/example/codicil/codicil/FieldKind;"⟩ : MethodName) method_2_code 1 (some (.object "com/example/codicil/codicil/FieldKind")) [] ({ frames := 0, cells := 0, slots := 0, locals := 0 } : Room) #[(.int (1 : Int32))] h0 (Pur h0 (.ref s)) := by
  refine Does.of (plainFor_of_name o_pn0) ?_
  intro p e s m below meth c T0 hx hby hml hown hnm hret hlk hZ X0 e0
  have hown : s.vm.findClass "com/example/codicil/codicil/FieldKindForCodePinLaw" = some m.cls := hown
  have hml : c.maxLocals = 1 := hml
  have hret : meth.sig.returnType = some (.object "com/example/codicil/codicil/FieldKind") := hret
  refine o_entry (o_ef3 m ) ?_
  refine o_iloadN X0 hx (hb hby d_method_2_code_0) (v := (1 : Int32)) rfl (n := 1) rfl ?_
  refine o_ifY X0 hx (hb hby d_method_2_code_1) (XT.i0_ne_t (by decide)) (by decide) (n := 8) (by decide) ?_
  refine o_iloadN X0 hx (hb hby d_method_2_code_8) (v := (1 : Int32)) rfl (n := 9) rfl ?_
  refine o_iconst X0 hx (hb hby d_method_2_code_9) (v := (1 : Int32)) rfl (n := 10) rfl ?_
  refine o_icmpN X0 hx (hb hby d_method_2_code_10) (XT.ii_ne_f (by decide)) (n := 13) rfl ?_
  refine o_getstatic X0 hx hZ hown (host := "") (Or.inl (hw _ (List.mem_of_getElem? (i := 27) rfl))) Via.refl e0 pS_LONG (hb hby d_method_2_code_13) (n := 16) rfl ?_
  intro T1 X1 e1
  exact o_areturn X1 hx hret hlk rfl rfl (hb hby d_method_2_code_16) (by decide) (by decide) e1 ⟨rfl, rfl, rfl⟩
theorem o_ef4 (m : MethodId)  : entryFrame m #[(.int (1 : Int32))] 1 = mkF m 0 #[.val (.int (1 : Int32))] [] := by first | (simp [entryFrame, mkF, argsToLocals, Value.category]; done) | rfl
set_option maxRecDepth 65536 in
set_option maxHeartbeats 40000000 in
theorem c_for_1 (l : Launch) (Z : State) (a0 : Array Value) (hw : ∀ d ∈ tables_1, d.before a0 Z = true) (b : Addr) (kb : ClassId) (s0 : Addr) (s1 : Addr) (s2 : Addr) (s3 : Addr) (s4 : Addr) (s5 : Addr) (s6 : Addr) (s7 : Addr) (h0 : Heap) (pS_BY_CODE : Sta Z h0 "com/example/codicil/codicil/FieldKind" "BY_CODE" "[Lcom/example/codicil/codicil/FieldKind;" (.ref b)) (pV_b : Arv Z h0 b kb (.object "com/example/codicil/codicil/FieldKind") (8 : Int32) [(.ref s0), (.ref s1), (.ref s2), (.ref s3), (.ref s4), (.ref s5), (.ref s6), (.ref s7)] .null) :
    Does l Z (⟨"com/example/codicil/codicil/FieldKind", "forCode", "(I)Lcom/example/codicil/codicil/FieldKind;"⟩ : MethodName) prog_8_method_5_code 1 (some (.object "com/example/codicil/codicil/FieldKind")) [] ({ frames := 0, cells := 0, slots := 0, locals := 0 } : Room) #[(.int (1 : Int32))] h0 (Pur h0 (.ref s1)) := by
  refine Does.of (plainFor_of_name o_pn1) ?_
  intro p e s m below meth c T0 hx hby hml hown hnm hret hlk hZ X0 e0
  have hown : s.vm.findClass "com/example/codicil/codicil/FieldKind" = some m.cls := hown
  have hml : c.maxLocals = 1 := hml
  have hret : meth.sig.returnType = some (.object "com/example/codicil/codicil/FieldKind") := hret
  refine o_entry (o_ef4 m ) ?_
  refine o_iloadN X0 hx (hb hby d_prog_8_method_5_code_0) (v := (1 : Int32)) rfl (n := 1) rfl ?_
  refine o_ifN X0 hx (hb hby d_prog_8_method_5_code_1) (XT.i0_lt_f (by decide)) (n := 4) rfl ?_
  refine o_iloadN X0 hx (hb hby d_prog_8_method_5_code_4) (v := (1 : Int32)) rfl (n := 5) rfl ?_
  refine o_getstatic X0 hx hZ hown (host := "") (Or.inl (hw _ (List.mem_of_getElem? (i := 10) rfl))) Via.refl e0 pS_BY_CODE (hb hby d_prog_8_method_5_code_5) (n := 8) rfl ?_
  intro T1 X1 e1
  refine o_arraylength X1 hx hZ e1 pV_b (hb hby d_prog_8_method_5_code_8) (n := 9) rfl ?_
  refine o_icmpY X1 hx (hb hby d_prog_8_method_5_code_9) (XT.ii_lt_t (by decide)) (by decide) (n := 26) (by decide) ?_
  refine o_getstatic X1 hx hZ hown (host := "") (Or.inl (hw _ (List.mem_of_getElem? (i := 10) rfl))) Via.refl e1 pS_BY_CODE (hb hby d_prog_8_method_5_code_26) (n := 29) rfl ?_
  intro T2 X2 e2
  refine o_iloadN X2 hx (hb hby d_prog_8_method_5_code_29) (v := (1 : Int32)) rfl (n := 30) rfl ?_
  refine o_aaload X2 hx hZ e2 pV_b rfl (1) (by decide) (by decide) (v := (.ref s1)) rfl (hb hby d_prog_8_method_5_code_30) (n := 31) rfl ?_
  exact o_areturn X2 hx hret hlk rfl rfl (hb hby d_prog_8_method_5_code_31) (by decide) (by decide) e2 ⟨rfl, rfl, rfl⟩
theorem d_method_2_code_17 : decode method_2_code 17 = .ok (.iload_n 0, 1) := by decide +kernel
theorem d_method_2_code_18 : decode method_2_code 18 = .ok (.iconst 2, 1) := by decide +kernel
theorem d_method_2_code_19 : decode method_2_code 19 = .ok (.if_icmp .ne 7, 3) := by decide +kernel
theorem d_method_2_code_22 : decode method_2_code 22 = .ok (.getstatic 16, 3) := by decide +kernel
theorem d_method_2_code_25 : decode method_2_code 25 = .ok (.areturn, 1) := by decide +kernel
theorem o_ef5 (m : MethodId)  : entryFrame m #[(.int (2 : Int32))] 1 = mkF m 0 #[.val (.int (2 : Int32))] [] := by first | (simp [entryFrame, mkF, argsToLocals, Value.category]; done) | rfl
set_option maxRecDepth 65536 in
set_option maxHeartbeats 40000000 in
theorem c_exp_2 (l : Launch) (Z : State) (a0 : Array Value) (hw : ∀ d ∈ tables_1, d.before a0 Z = true) (s : Addr) (h0 : Heap) (pS_BOOLEAN : Sta Z h0 "com/example/codicil/codicil/FieldKind" "BOOLEAN" "Lcom/example/codicil/codicil/FieldKind;" (.ref s)) :
    Does l Z (⟨"com/example/codicil/codicil/FieldKindForCodePinLaw", "expected", "(I)Lcom/example/codicil/codicil/FieldKind;"⟩ : MethodName) method_2_code 1 (some (.object "com/example/codicil/codicil/FieldKind")) [] ({ frames := 0, cells := 0, slots := 0, locals := 0 } : Room) #[(.int (2 : Int32))] h0 (Pur h0 (.ref s)) := by
  refine Does.of (plainFor_of_name o_pn0) ?_
  intro p e s m below meth c T0 hx hby hml hown hnm hret hlk hZ X0 e0
  have hown : s.vm.findClass "com/example/codicil/codicil/FieldKindForCodePinLaw" = some m.cls := hown
  have hml : c.maxLocals = 1 := hml
  have hret : meth.sig.returnType = some (.object "com/example/codicil/codicil/FieldKind") := hret
  refine o_entry (o_ef5 m ) ?_
  refine o_iloadN X0 hx (hb hby d_method_2_code_0) (v := (2 : Int32)) rfl (n := 1) rfl ?_
  refine o_ifY X0 hx (hb hby d_method_2_code_1) (XT.i0_ne_t (by decide)) (by decide) (n := 8) (by decide) ?_
  refine o_iloadN X0 hx (hb hby d_method_2_code_8) (v := (2 : Int32)) rfl (n := 9) rfl ?_
  refine o_iconst X0 hx (hb hby d_method_2_code_9) (v := (1 : Int32)) rfl (n := 10) rfl ?_
  refine o_icmpY X0 hx (hb hby d_method_2_code_10) (XT.ii_ne_t (by decide)) (by decide) (n := 17) (by decide) ?_
  refine o_iloadN X0 hx (hb hby d_method_2_code_17) (v := (2 : Int32)) rfl (n := 18) rfl ?_
  refine o_iconst X0 hx (hb hby d_method_2_code_18) (v := (2 : Int32)) rfl (n := 19) rfl ?_
  refine o_icmpN X0 hx (hb hby d_method_2_code_19) (XT.ii_ne_f (by decide)) (n := 22) rfl ?_
  refine o_getstatic X0 hx hZ hown (host := "") (Or.inl (hw _ (List.mem_of_getElem? (i := 25) rfl))) Via.refl e0 pS_BOOLEAN (hb hby d_method_2_code_22) (n := 25) rfl ?_
  intro T1 X1 e1
  exact o_areturn X1 hx hret hlk rfl rfl (hb hby d_method_2_code_25) (by decide) (by decide) e1 ⟨rfl, rfl, rfl⟩
theorem o_ef6 (m : MethodId)  : entryFrame m #[(.int (2 : Int32))] 1 = mkF m 0 #[.val (.int (2 : Int32))] [] := by first | (simp [entryFrame, mkF, argsToLocals, Value.category]; done) | rfl
set_option maxRecDepth 65536 in
set_option maxHeartbeats 40000000 in
theorem c_for_2 (l : Launch) (Z : State) (a0 : Array Value) (hw : ∀ d ∈ tables_1, d.before a0 Z = true) (b : Addr) (kb : ClassId) (s0 : Addr) (s1 : Addr) (s2 : Addr) (s3 : Addr) (s4 : Addr) (s5 : Addr) (s6 : Addr) (s7 : Addr) (h0 : Heap) (pS_BY_CODE : Sta Z h0 "com/example/codicil/codicil/FieldKind" "BY_CODE" "[Lcom/example/codicil/codicil/FieldKind;" (.ref b)) (pV_b : Arv Z h0 b kb (.object "com/example/codicil/codicil/FieldKind") (8 : Int32) [(.ref s0), (.ref s1), (.ref s2), (.ref s3), (.ref s4), (.ref s5), (.ref s6), (.ref s7)] .null) :
    Does l Z (⟨"com/example/codicil/codicil/FieldKind", "forCode", "(I)Lcom/example/codicil/codicil/FieldKind;"⟩ : MethodName) prog_8_method_5_code 1 (some (.object "com/example/codicil/codicil/FieldKind")) [] ({ frames := 0, cells := 0, slots := 0, locals := 0 } : Room) #[(.int (2 : Int32))] h0 (Pur h0 (.ref s2)) := by
  refine Does.of (plainFor_of_name o_pn1) ?_
  intro p e s m below meth c T0 hx hby hml hown hnm hret hlk hZ X0 e0
  have hown : s.vm.findClass "com/example/codicil/codicil/FieldKind" = some m.cls := hown
  have hml : c.maxLocals = 1 := hml
  have hret : meth.sig.returnType = some (.object "com/example/codicil/codicil/FieldKind") := hret
  refine o_entry (o_ef6 m ) ?_
  refine o_iloadN X0 hx (hb hby d_prog_8_method_5_code_0) (v := (2 : Int32)) rfl (n := 1) rfl ?_
  refine o_ifN X0 hx (hb hby d_prog_8_method_5_code_1) (XT.i0_lt_f (by decide)) (n := 4) rfl ?_
  refine o_iloadN X0 hx (hb hby d_prog_8_method_5_code_4) (v := (2 : Int32)) rfl (n := 5) rfl ?_
  refine o_getstatic X0 hx hZ hown (host := "") (Or.inl (hw _ (List.mem_of_getElem? (i := 10) rfl))) Via.refl e0 pS_BY_CODE (hb hby d_prog_8_method_5_code_5) (n := 8) rfl ?_
  intro T1 X1 e1
  refine o_arraylength X1 hx hZ e1 pV_b (hb hby d_prog_8_method_5_code_8) (n := 9) rfl ?_
  refine o_icmpY X1 hx (hb hby d_prog_8_method_5_code_9) (XT.ii_lt_t (by decide)) (by decide) (n := 26) (by decide) ?_
  refine o_getstatic X1 hx hZ hown (host := "") (Or.inl (hw _ (List.mem_of_getElem? (i := 10) rfl))) Via.refl e1 pS_BY_CODE (hb hby d_prog_8_method_5_code_26) (n := 29) rfl ?_
  intro T2 X2 e2
  refine o_iloadN X2 hx (hb hby d_prog_8_method_5_code_29) (v := (2 : Int32)) rfl (n := 30) rfl ?_
  refine o_aaload X2 hx hZ e2 pV_b rfl (2) (by decide) (by decide) (v := (.ref s2)) rfl (hb hby d_prog_8_method_5_code_30) (n := 31) rfl ?_
  exact o_areturn X2 hx hret hlk rfl rfl (hb hby d_prog_8_method_5_code_31) (by decide) (by decide) e2 ⟨rfl, rfl, rfl⟩
theorem d_method_2_code_26 : decode method_2_code 26 = .ok (.iload_n 0, 1) := by decide +kernel
theorem d_method_2_code_27 : decode method_2_code 27 = .ok (.iconst 3, 1) := by decide +kernel
theorem d_method_2_code_28 : decode method_2_code 28 = .ok (.if_icmp .ne 7, 3) := by decide +kernel
theorem d_method_2_code_31 : decode method_2_code 31 = .ok (.getstatic 19, 3) := by decide +kernel
theorem d_method_2_code_34 : decode method_2_code 34 = .ok (.areturn, 1) := by decide +kernel
theorem o_ef7 (m : MethodId)  : entryFrame m #[(.int (3 : Int32))] 1 = mkF m 0 #[.val (.int (3 : Int32))] [] := by first | (simp [entryFrame, mkF, argsToLocals, Value.category]; done) | rfl
set_option maxRecDepth 65536 in
set_option maxHeartbeats 40000000 in
theorem c_exp_3 (l : Launch) (Z : State) (a0 : Array Value) (hw : ∀ d ∈ tables_1, d.before a0 Z = true) (s : Addr) (h0 : Heap) (pS_FLOAT : Sta Z h0 "com/example/codicil/codicil/FieldKind" "FLOAT" "Lcom/example/codicil/codicil/FieldKind;" (.ref s)) :
    Does l Z (⟨"com/example/codicil/codicil/FieldKindForCodePinLaw", "expected", "(I)Lcom/example/codicil/codicil/FieldKind;"⟩ : MethodName) method_2_code 1 (some (.object "com/example/codicil/codicil/FieldKind")) [] ({ frames := 0, cells := 0, slots := 0, locals := 0 } : Room) #[(.int (3 : Int32))] h0 (Pur h0 (.ref s)) := by
  refine Does.of (plainFor_of_name o_pn0) ?_
  intro p e s m below meth c T0 hx hby hml hown hnm hret hlk hZ X0 e0
  have hown : s.vm.findClass "com/example/codicil/codicil/FieldKindForCodePinLaw" = some m.cls := hown
  have hml : c.maxLocals = 1 := hml
  have hret : meth.sig.returnType = some (.object "com/example/codicil/codicil/FieldKind") := hret
  refine o_entry (o_ef7 m ) ?_
  refine o_iloadN X0 hx (hb hby d_method_2_code_0) (v := (3 : Int32)) rfl (n := 1) rfl ?_
  refine o_ifY X0 hx (hb hby d_method_2_code_1) (XT.i0_ne_t (by decide)) (by decide) (n := 8) (by decide) ?_
  refine o_iloadN X0 hx (hb hby d_method_2_code_8) (v := (3 : Int32)) rfl (n := 9) rfl ?_
  refine o_iconst X0 hx (hb hby d_method_2_code_9) (v := (1 : Int32)) rfl (n := 10) rfl ?_
  refine o_icmpY X0 hx (hb hby d_method_2_code_10) (XT.ii_ne_t (by decide)) (by decide) (n := 17) (by decide) ?_
  refine o_iloadN X0 hx (hb hby d_method_2_code_17) (v := (3 : Int32)) rfl (n := 18) rfl ?_
  refine o_iconst X0 hx (hb hby d_method_2_code_18) (v := (2 : Int32)) rfl (n := 19) rfl ?_
  refine o_icmpY X0 hx (hb hby d_method_2_code_19) (XT.ii_ne_t (by decide)) (by decide) (n := 26) (by decide) ?_
  refine o_iloadN X0 hx (hb hby d_method_2_code_26) (v := (3 : Int32)) rfl (n := 27) rfl ?_
  refine o_iconst X0 hx (hb hby d_method_2_code_27) (v := (3 : Int32)) rfl (n := 28) rfl ?_
  refine o_icmpN X0 hx (hb hby d_method_2_code_28) (XT.ii_ne_f (by decide)) (n := 31) rfl ?_
  refine o_getstatic X0 hx hZ hown (host := "") (Or.inl (hw _ (List.mem_of_getElem? (i := 19) rfl))) Via.refl e0 pS_FLOAT (hb hby d_method_2_code_31) (n := 34) rfl ?_
  intro T1 X1 e1
  exact o_areturn X1 hx hret hlk rfl rfl (hb hby d_method_2_code_34) (by decide) (by decide) e1 ⟨rfl, rfl, rfl⟩
theorem o_ef8 (m : MethodId)  : entryFrame m #[(.int (3 : Int32))] 1 = mkF m 0 #[.val (.int (3 : Int32))] [] := by first | (simp [entryFrame, mkF, argsToLocals, Value.category]; done) | rfl
set_option maxRecDepth 65536 in
set_option maxHeartbeats 40000000 in
theorem c_for_3 (l : Launch) (Z : State) (a0 : Array Value) (hw : ∀ d ∈ tables_1, d.before a0 Z = true) (b : Addr) (kb : ClassId) (s0 : Addr) (s1 : Addr) (s2 : Addr) (s3 : Addr) (s4 : Addr) (s5 : Addr) (s6 : Addr) (s7 : Addr) (h0 : Heap) (pS_BY_CODE : Sta Z h0 "com/example/codicil/codicil/FieldKind" "BY_CODE" "[Lcom/example/codicil/codicil/FieldKind;" (.ref b)) (pV_b : Arv Z h0 b kb (.object "com/example/codicil/codicil/FieldKind") (8 : Int32) [(.ref s0), (.ref s1), (.ref s2), (.ref s3), (.ref s4), (.ref s5), (.ref s6), (.ref s7)] .null) :
    Does l Z (⟨"com/example/codicil/codicil/FieldKind", "forCode", "(I)Lcom/example/codicil/codicil/FieldKind;"⟩ : MethodName) prog_8_method_5_code 1 (some (.object "com/example/codicil/codicil/FieldKind")) [] ({ frames := 0, cells := 0, slots := 0, locals := 0 } : Room) #[(.int (3 : Int32))] h0 (Pur h0 (.ref s3)) := by
  refine Does.of (plainFor_of_name o_pn1) ?_
  intro p e s m below meth c T0 hx hby hml hown hnm hret hlk hZ X0 e0
  have hown : s.vm.findClass "com/example/codicil/codicil/FieldKind" = some m.cls := hown
  have hml : c.maxLocals = 1 := hml
  have hret : meth.sig.returnType = some (.object "com/example/codicil/codicil/FieldKind") := hret
  refine o_entry (o_ef8 m ) ?_
  refine o_iloadN X0 hx (hb hby d_prog_8_method_5_code_0) (v := (3 : Int32)) rfl (n := 1) rfl ?_
  refine o_ifN X0 hx (hb hby d_prog_8_method_5_code_1) (XT.i0_lt_f (by decide)) (n := 4) rfl ?_
  refine o_iloadN X0 hx (hb hby d_prog_8_method_5_code_4) (v := (3 : Int32)) rfl (n := 5) rfl ?_
  refine o_getstatic X0 hx hZ hown (host := "") (Or.inl (hw _ (List.mem_of_getElem? (i := 10) rfl))) Via.refl e0 pS_BY_CODE (hb hby d_prog_8_method_5_code_5) (n := 8) rfl ?_
  intro T1 X1 e1
  refine o_arraylength X1 hx hZ e1 pV_b (hb hby d_prog_8_method_5_code_8) (n := 9) rfl ?_
  refine o_icmpY X1 hx (hb hby d_prog_8_method_5_code_9) (XT.ii_lt_t (by decide)) (by decide) (n := 26) (by decide) ?_
  refine o_getstatic X1 hx hZ hown (host := "") (Or.inl (hw _ (List.mem_of_getElem? (i := 10) rfl))) Via.refl e1 pS_BY_CODE (hb hby d_prog_8_method_5_code_26) (n := 29) rfl ?_
  intro T2 X2 e2
  refine o_iloadN X2 hx (hb hby d_prog_8_method_5_code_29) (v := (3 : Int32)) rfl (n := 30) rfl ?_
  refine o_aaload X2 hx hZ e2 pV_b rfl (3) (by decide) (by decide) (v := (.ref s3)) rfl (hb hby d_prog_8_method_5_code_30) (n := 31) rfl ?_
  exact o_areturn X2 hx hret hlk rfl rfl (hb hby d_prog_8_method_5_code_31) (by decide) (by decide) e2 ⟨rfl, rfl, rfl⟩
theorem d_method_2_code_35 : decode method_2_code 35 = .ok (.iload_n 0, 1) := by decide +kernel
theorem d_method_2_code_36 : decode method_2_code 36 = .ok (.iconst 4, 1) := by decide +kernel
theorem d_method_2_code_37 : decode method_2_code 37 = .ok (.if_icmp .ne 7, 3) := by decide +kernel
theorem d_method_2_code_40 : decode method_2_code 40 = .ok (.getstatic 22, 3) := by decide +kernel
theorem d_method_2_code_43 : decode method_2_code 43 = .ok (.areturn, 1) := by decide +kernel
theorem o_ef9 (m : MethodId)  : entryFrame m #[(.int (4 : Int32))] 1 = mkF m 0 #[.val (.int (4 : Int32))] [] := by first | (simp [entryFrame, mkF, argsToLocals, Value.category]; done) | rfl
set_option maxRecDepth 65536 in
set_option maxHeartbeats 40000000 in
theorem c_exp_4 (l : Launch) (Z : State) (a0 : Array Value) (hw : ∀ d ∈ tables_1, d.before a0 Z = true) (s : Addr) (h0 : Heap) (pS_DOUBLE : Sta Z h0 "com/example/codicil/codicil/FieldKind" "DOUBLE" "Lcom/example/codicil/codicil/FieldKind;" (.ref s)) :
    Does l Z (⟨"com/example/codicil/codicil/FieldKindForCodePinLaw", "expected", "(I)Lcom/example/codicil/codicil/FieldKind;"⟩ : MethodName) method_2_code 1 (some (.object "com/example/codicil/codicil/FieldKind")) [] ({ frames := 0, cells := 0, slots := 0, locals := 0 } : Room) #[(.int (4 : Int32))] h0 (Pur h0 (.ref s)) := by
  refine Does.of (plainFor_of_name o_pn0) ?_
  intro p e s m below meth c T0 hx hby hml hown hnm hret hlk hZ X0 e0
  have hown : s.vm.findClass "com/example/codicil/codicil/FieldKindForCodePinLaw" = some m.cls := hown
  have hml : c.maxLocals = 1 := hml
  have hret : meth.sig.returnType = some (.object "com/example/codicil/codicil/FieldKind") := hret
  refine o_entry (o_ef9 m ) ?_
  refine o_iloadN X0 hx (hb hby d_method_2_code_0) (v := (4 : Int32)) rfl (n := 1) rfl ?_
  refine o_ifY X0 hx (hb hby d_method_2_code_1) (XT.i0_ne_t (by decide)) (by decide) (n := 8) (by decide) ?_
  refine o_iloadN X0 hx (hb hby d_method_2_code_8) (v := (4 : Int32)) rfl (n := 9) rfl ?_
  refine o_iconst X0 hx (hb hby d_method_2_code_9) (v := (1 : Int32)) rfl (n := 10) rfl ?_
  refine o_icmpY X0 hx (hb hby d_method_2_code_10) (XT.ii_ne_t (by decide)) (by decide) (n := 17) (by decide) ?_
  refine o_iloadN X0 hx (hb hby d_method_2_code_17) (v := (4 : Int32)) rfl (n := 18) rfl ?_
  refine o_iconst X0 hx (hb hby d_method_2_code_18) (v := (2 : Int32)) rfl (n := 19) rfl ?_
  refine o_icmpY X0 hx (hb hby d_method_2_code_19) (XT.ii_ne_t (by decide)) (by decide) (n := 26) (by decide) ?_
  refine o_iloadN X0 hx (hb hby d_method_2_code_26) (v := (4 : Int32)) rfl (n := 27) rfl ?_
  refine o_iconst X0 hx (hb hby d_method_2_code_27) (v := (3 : Int32)) rfl (n := 28) rfl ?_
  refine o_icmpY X0 hx (hb hby d_method_2_code_28) (XT.ii_ne_t (by decide)) (by decide) (n := 35) (by decide) ?_
  refine o_iloadN X0 hx (hb hby d_method_2_code_35) (v := (4 : Int32)) rfl (n := 36) rfl ?_
  refine o_iconst X0 hx (hb hby d_method_2_code_36) (v := (4 : Int32)) rfl (n := 37) rfl ?_
  refine o_icmpN X0 hx (hb hby d_method_2_code_37) (XT.ii_ne_f (by decide)) (n := 40) rfl ?_
  refine o_getstatic X0 hx hZ hown (host := "") (Or.inl (hw _ (List.mem_of_getElem? (i := 29) rfl))) Via.refl e0 pS_DOUBLE (hb hby d_method_2_code_40) (n := 43) rfl ?_
  intro T1 X1 e1
  exact o_areturn X1 hx hret hlk rfl rfl (hb hby d_method_2_code_43) (by decide) (by decide) e1 ⟨rfl, rfl, rfl⟩
theorem o_ef10 (m : MethodId)  : entryFrame m #[(.int (4 : Int32))] 1 = mkF m 0 #[.val (.int (4 : Int32))] [] := by first | (simp [entryFrame, mkF, argsToLocals, Value.category]; done) | rfl
set_option maxRecDepth 65536 in
set_option maxHeartbeats 40000000 in
theorem c_for_4 (l : Launch) (Z : State) (a0 : Array Value) (hw : ∀ d ∈ tables_1, d.before a0 Z = true) (b : Addr) (kb : ClassId) (s0 : Addr) (s1 : Addr) (s2 : Addr) (s3 : Addr) (s4 : Addr) (s5 : Addr) (s6 : Addr) (s7 : Addr) (h0 : Heap) (pS_BY_CODE : Sta Z h0 "com/example/codicil/codicil/FieldKind" "BY_CODE" "[Lcom/example/codicil/codicil/FieldKind;" (.ref b)) (pV_b : Arv Z h0 b kb (.object "com/example/codicil/codicil/FieldKind") (8 : Int32) [(.ref s0), (.ref s1), (.ref s2), (.ref s3), (.ref s4), (.ref s5), (.ref s6), (.ref s7)] .null) :
    Does l Z (⟨"com/example/codicil/codicil/FieldKind", "forCode", "(I)Lcom/example/codicil/codicil/FieldKind;"⟩ : MethodName) prog_8_method_5_code 1 (some (.object "com/example/codicil/codicil/FieldKind")) [] ({ frames := 0, cells := 0, slots := 0, locals := 0 } : Room) #[(.int (4 : Int32))] h0 (Pur h0 (.ref s4)) := by
  refine Does.of (plainFor_of_name o_pn1) ?_
  intro p e s m below meth c T0 hx hby hml hown hnm hret hlk hZ X0 e0
  have hown : s.vm.findClass "com/example/codicil/codicil/FieldKind" = some m.cls := hown
  have hml : c.maxLocals = 1 := hml
  have hret : meth.sig.returnType = some (.object "com/example/codicil/codicil/FieldKind") := hret
  refine o_entry (o_ef10 m ) ?_
  refine o_iloadN X0 hx (hb hby d_prog_8_method_5_code_0) (v := (4 : Int32)) rfl (n := 1) rfl ?_
  refine o_ifN X0 hx (hb hby d_prog_8_method_5_code_1) (XT.i0_lt_f (by decide)) (n := 4) rfl ?_
  refine o_iloadN X0 hx (hb hby d_prog_8_method_5_code_4) (v := (4 : Int32)) rfl (n := 5) rfl ?_
  refine o_getstatic X0 hx hZ hown (host := "") (Or.inl (hw _ (List.mem_of_getElem? (i := 10) rfl))) Via.refl e0 pS_BY_CODE (hb hby d_prog_8_method_5_code_5) (n := 8) rfl ?_
  intro T1 X1 e1
  refine o_arraylength X1 hx hZ e1 pV_b (hb hby d_prog_8_method_5_code_8) (n := 9) rfl ?_
  refine o_icmpY X1 hx (hb hby d_prog_8_method_5_code_9) (XT.ii_lt_t (by decide)) (by decide) (n := 26) (by decide) ?_
  refine o_getstatic X1 hx hZ hown (host := "") (Or.inl (hw _ (List.mem_of_getElem? (i := 10) rfl))) Via.refl e1 pS_BY_CODE (hb hby d_prog_8_method_5_code_26) (n := 29) rfl ?_
  intro T2 X2 e2
  refine o_iloadN X2 hx (hb hby d_prog_8_method_5_code_29) (v := (4 : Int32)) rfl (n := 30) rfl ?_
  refine o_aaload X2 hx hZ e2 pV_b rfl (4) (by decide) (by decide) (v := (.ref s4)) rfl (hb hby d_prog_8_method_5_code_30) (n := 31) rfl ?_
  exact o_areturn X2 hx hret hlk rfl rfl (hb hby d_prog_8_method_5_code_31) (by decide) (by decide) e2 ⟨rfl, rfl, rfl⟩
theorem d_method_2_code_44 : decode method_2_code 44 = .ok (.iload_n 0, 1) := by decide +kernel
theorem d_method_2_code_45 : decode method_2_code 45 = .ok (.iconst 5, 1) := by decide +kernel
theorem d_method_2_code_46 : decode method_2_code 46 = .ok (.if_icmp .ne 7, 3) := by decide +kernel
theorem d_method_2_code_49 : decode method_2_code 49 = .ok (.getstatic 25, 3) := by decide +kernel
theorem d_method_2_code_52 : decode method_2_code 52 = .ok (.areturn, 1) := by decide +kernel
theorem o_ef11 (m : MethodId)  : entryFrame m #[(.int (5 : Int32))] 1 = mkF m 0 #[.val (.int (5 : Int32))] [] := by first | (simp [entryFrame, mkF, argsToLocals, Value.category]; done) | rfl
set_option maxRecDepth 65536 in
set_option maxHeartbeats 40000000 in
theorem c_exp_5 (l : Launch) (Z : State) (a0 : Array Value) (hw : ∀ d ∈ tables_1, d.before a0 Z = true) (s : Addr) (h0 : Heap) (pS_STRING : Sta Z h0 "com/example/codicil/codicil/FieldKind" "STRING" "Lcom/example/codicil/codicil/FieldKind;" (.ref s)) :
    Does l Z (⟨"com/example/codicil/codicil/FieldKindForCodePinLaw", "expected", "(I)Lcom/example/codicil/codicil/FieldKind;"⟩ : MethodName) method_2_code 1 (some (.object "com/example/codicil/codicil/FieldKind")) [] ({ frames := 0, cells := 0, slots := 0, locals := 0 } : Room) #[(.int (5 : Int32))] h0 (Pur h0 (.ref s)) := by
  refine Does.of (plainFor_of_name o_pn0) ?_
  intro p e s m below meth c T0 hx hby hml hown hnm hret hlk hZ X0 e0
  have hown : s.vm.findClass "com/example/codicil/codicil/FieldKindForCodePinLaw" = some m.cls := hown
  have hml : c.maxLocals = 1 := hml
  have hret : meth.sig.returnType = some (.object "com/example/codicil/codicil/FieldKind") := hret
  refine o_entry (o_ef11 m ) ?_
  refine o_iloadN X0 hx (hb hby d_method_2_code_0) (v := (5 : Int32)) rfl (n := 1) rfl ?_
  refine o_ifY X0 hx (hb hby d_method_2_code_1) (XT.i0_ne_t (by decide)) (by decide) (n := 8) (by decide) ?_
  refine o_iloadN X0 hx (hb hby d_method_2_code_8) (v := (5 : Int32)) rfl (n := 9) rfl ?_
  refine o_iconst X0 hx (hb hby d_method_2_code_9) (v := (1 : Int32)) rfl (n := 10) rfl ?_
  refine o_icmpY X0 hx (hb hby d_method_2_code_10) (XT.ii_ne_t (by decide)) (by decide) (n := 17) (by decide) ?_
  refine o_iloadN X0 hx (hb hby d_method_2_code_17) (v := (5 : Int32)) rfl (n := 18) rfl ?_
  refine o_iconst X0 hx (hb hby d_method_2_code_18) (v := (2 : Int32)) rfl (n := 19) rfl ?_
  refine o_icmpY X0 hx (hb hby d_method_2_code_19) (XT.ii_ne_t (by decide)) (by decide) (n := 26) (by decide) ?_
  refine o_iloadN X0 hx (hb hby d_method_2_code_26) (v := (5 : Int32)) rfl (n := 27) rfl ?_
  refine o_iconst X0 hx (hb hby d_method_2_code_27) (v := (3 : Int32)) rfl (n := 28) rfl ?_
  refine o_icmpY X0 hx (hb hby d_method_2_code_28) (XT.ii_ne_t (by decide)) (by decide) (n := 35) (by decide) ?_
  refine o_iloadN X0 hx (hb hby d_method_2_code_35) (v := (5 : Int32)) rfl (n := 36) rfl ?_
  refine o_iconst X0 hx (hb hby d_method_2_code_36) (v := (4 : Int32)) rfl (n := 37) rfl ?_
  refine o_icmpY X0 hx (hb hby d_method_2_code_37) (XT.ii_ne_t (by decide)) (by decide) (n := 44) (by decide) ?_
  refine o_iloadN X0 hx (hb hby d_method_2_code_44) (v := (5 : Int32)) rfl (n := 45) rfl ?_
  refine o_iconst X0 hx (hb hby d_method_2_code_45) (v := (5 : Int32)) rfl (n := 46) rfl ?_
  refine o_icmpN X0 hx (hb hby d_method_2_code_46) (XT.ii_ne_f (by decide)) (n := 49) rfl ?_
  refine o_getstatic X0 hx hZ hown (host := "") (Or.inl (hw _ (List.mem_of_getElem? (i := 31) rfl))) Via.refl e0 pS_STRING (hb hby d_method_2_code_49) (n := 52) rfl ?_
  intro T1 X1 e1
  exact o_areturn X1 hx hret hlk rfl rfl (hb hby d_method_2_code_52) (by decide) (by decide) e1 ⟨rfl, rfl, rfl⟩
theorem o_ef12 (m : MethodId)  : entryFrame m #[(.int (5 : Int32))] 1 = mkF m 0 #[.val (.int (5 : Int32))] [] := by first | (simp [entryFrame, mkF, argsToLocals, Value.category]; done) | rfl
set_option maxRecDepth 65536 in
set_option maxHeartbeats 40000000 in
theorem c_for_5 (l : Launch) (Z : State) (a0 : Array Value) (hw : ∀ d ∈ tables_1, d.before a0 Z = true) (b : Addr) (kb : ClassId) (s0 : Addr) (s1 : Addr) (s2 : Addr) (s3 : Addr) (s4 : Addr) (s5 : Addr) (s6 : Addr) (s7 : Addr) (h0 : Heap) (pS_BY_CODE : Sta Z h0 "com/example/codicil/codicil/FieldKind" "BY_CODE" "[Lcom/example/codicil/codicil/FieldKind;" (.ref b)) (pV_b : Arv Z h0 b kb (.object "com/example/codicil/codicil/FieldKind") (8 : Int32) [(.ref s0), (.ref s1), (.ref s2), (.ref s3), (.ref s4), (.ref s5), (.ref s6), (.ref s7)] .null) :
    Does l Z (⟨"com/example/codicil/codicil/FieldKind", "forCode", "(I)Lcom/example/codicil/codicil/FieldKind;"⟩ : MethodName) prog_8_method_5_code 1 (some (.object "com/example/codicil/codicil/FieldKind")) [] ({ frames := 0, cells := 0, slots := 0, locals := 0 } : Room) #[(.int (5 : Int32))] h0 (Pur h0 (.ref s5)) := by
  refine Does.of (plainFor_of_name o_pn1) ?_
  intro p e s m below meth c T0 hx hby hml hown hnm hret hlk hZ X0 e0
  have hown : s.vm.findClass "com/example/codicil/codicil/FieldKind" = some m.cls := hown
  have hml : c.maxLocals = 1 := hml
  have hret : meth.sig.returnType = some (.object "com/example/codicil/codicil/FieldKind") := hret
  refine o_entry (o_ef12 m ) ?_
  refine o_iloadN X0 hx (hb hby d_prog_8_method_5_code_0) (v := (5 : Int32)) rfl (n := 1) rfl ?_
  refine o_ifN X0 hx (hb hby d_prog_8_method_5_code_1) (XT.i0_lt_f (by decide)) (n := 4) rfl ?_
  refine o_iloadN X0 hx (hb hby d_prog_8_method_5_code_4) (v := (5 : Int32)) rfl (n := 5) rfl ?_
  refine o_getstatic X0 hx hZ hown (host := "") (Or.inl (hw _ (List.mem_of_getElem? (i := 10) rfl))) Via.refl e0 pS_BY_CODE (hb hby d_prog_8_method_5_code_5) (n := 8) rfl ?_
  intro T1 X1 e1
  refine o_arraylength X1 hx hZ e1 pV_b (hb hby d_prog_8_method_5_code_8) (n := 9) rfl ?_
  refine o_icmpY X1 hx (hb hby d_prog_8_method_5_code_9) (XT.ii_lt_t (by decide)) (by decide) (n := 26) (by decide) ?_
  refine o_getstatic X1 hx hZ hown (host := "") (Or.inl (hw _ (List.mem_of_getElem? (i := 10) rfl))) Via.refl e1 pS_BY_CODE (hb hby d_prog_8_method_5_code_26) (n := 29) rfl ?_
  intro T2 X2 e2
  refine o_iloadN X2 hx (hb hby d_prog_8_method_5_code_29) (v := (5 : Int32)) rfl (n := 30) rfl ?_
  refine o_aaload X2 hx hZ e2 pV_b rfl (5) (by decide) (by decide) (v := (.ref s5)) rfl (hb hby d_prog_8_method_5_code_30) (n := 31) rfl ?_
  exact o_areturn X2 hx hret hlk rfl rfl (hb hby d_prog_8_method_5_code_31) (by decide) (by decide) e2 ⟨rfl, rfl, rfl⟩
theorem d_method_2_code_53 : decode method_2_code 53 = .ok (.iload_n 0, 1) := by decide +kernel
theorem d_method_2_code_54 : decode method_2_code 54 = .ok (.bipush 6, 2) := by decide +kernel
theorem d_method_2_code_56 : decode method_2_code 56 = .ok (.if_icmp .ne 7, 3) := by decide +kernel
theorem d_method_2_code_59 : decode method_2_code 59 = .ok (.getstatic 28, 3) := by decide +kernel
theorem d_method_2_code_62 : decode method_2_code 62 = .ok (.areturn, 1) := by decide +kernel
theorem o_ef13 (m : MethodId)  : entryFrame m #[(.int (6 : Int32))] 1 = mkF m 0 #[.val (.int (6 : Int32))] [] := by first | (simp [entryFrame, mkF, argsToLocals, Value.category]; done) | rfl
set_option maxRecDepth 65536 in
set_option maxHeartbeats 40000000 in
theorem c_exp_6 (l : Launch) (Z : State) (a0 : Array Value) (hw : ∀ d ∈ tables_1, d.before a0 Z = true) (s : Addr) (h0 : Heap) (pS_BYTES : Sta Z h0 "com/example/codicil/codicil/FieldKind" "BYTES" "Lcom/example/codicil/codicil/FieldKind;" (.ref s)) :
    Does l Z (⟨"com/example/codicil/codicil/FieldKindForCodePinLaw", "expected", "(I)Lcom/example/codicil/codicil/FieldKind;"⟩ : MethodName) method_2_code 1 (some (.object "com/example/codicil/codicil/FieldKind")) [] ({ frames := 0, cells := 0, slots := 0, locals := 0 } : Room) #[(.int (6 : Int32))] h0 (Pur h0 (.ref s)) := by
  refine Does.of (plainFor_of_name o_pn0) ?_
  intro p e s m below meth c T0 hx hby hml hown hnm hret hlk hZ X0 e0
  have hown : s.vm.findClass "com/example/codicil/codicil/FieldKindForCodePinLaw" = some m.cls := hown
  have hml : c.maxLocals = 1 := hml
  have hret : meth.sig.returnType = some (.object "com/example/codicil/codicil/FieldKind") := hret
  refine o_entry (o_ef13 m ) ?_
  refine o_iloadN X0 hx (hb hby d_method_2_code_0) (v := (6 : Int32)) rfl (n := 1) rfl ?_
  refine o_ifY X0 hx (hb hby d_method_2_code_1) (XT.i0_ne_t (by decide)) (by decide) (n := 8) (by decide) ?_
  refine o_iloadN X0 hx (hb hby d_method_2_code_8) (v := (6 : Int32)) rfl (n := 9) rfl ?_
  refine o_iconst X0 hx (hb hby d_method_2_code_9) (v := (1 : Int32)) rfl (n := 10) rfl ?_
  refine o_icmpY X0 hx (hb hby d_method_2_code_10) (XT.ii_ne_t (by decide)) (by decide) (n := 17) (by decide) ?_
  refine o_iloadN X0 hx (hb hby d_method_2_code_17) (v := (6 : Int32)) rfl (n := 18) rfl ?_
  refine o_iconst X0 hx (hb hby d_method_2_code_18) (v := (2 : Int32)) rfl (n := 19) rfl ?_
  refine o_icmpY X0 hx (hb hby d_method_2_code_19) (XT.ii_ne_t (by decide)) (by decide) (n := 26) (by decide) ?_
  refine o_iloadN X0 hx (hb hby d_method_2_code_26) (v := (6 : Int32)) rfl (n := 27) rfl ?_
  refine o_iconst X0 hx (hb hby d_method_2_code_27) (v := (3 : Int32)) rfl (n := 28) rfl ?_
  refine o_icmpY X0 hx (hb hby d_method_2_code_28) (XT.ii_ne_t (by decide)) (by decide) (n := 35) (by decide) ?_
  refine o_iloadN X0 hx (hb hby d_method_2_code_35) (v := (6 : Int32)) rfl (n := 36) rfl ?_
  refine o_iconst X0 hx (hb hby d_method_2_code_36) (v := (4 : Int32)) rfl (n := 37) rfl ?_
  refine o_icmpY X0 hx (hb hby d_method_2_code_37) (XT.ii_ne_t (by decide)) (by decide) (n := 44) (by decide) ?_
  refine o_iloadN X0 hx (hb hby d_method_2_code_44) (v := (6 : Int32)) rfl (n := 45) rfl ?_
  refine o_iconst X0 hx (hb hby d_method_2_code_45) (v := (5 : Int32)) rfl (n := 46) rfl ?_
  refine o_icmpY X0 hx (hb hby d_method_2_code_46) (XT.ii_ne_t (by decide)) (by decide) (n := 53) (by decide) ?_
  refine o_iloadN X0 hx (hb hby d_method_2_code_53) (v := (6 : Int32)) rfl (n := 54) rfl ?_
  refine o_bipush X0 hx (hb hby d_method_2_code_54) (v := (6 : Int32)) rfl (n := 56) rfl ?_
  refine o_icmpN X0 hx (hb hby d_method_2_code_56) (XT.ii_ne_f (by decide)) (n := 59) rfl ?_
  refine o_getstatic X0 hx hZ hown (host := "") (Or.inl (hw _ (List.mem_of_getElem? (i := 21) rfl))) Via.refl e0 pS_BYTES (hb hby d_method_2_code_59) (n := 62) rfl ?_
  intro T1 X1 e1
  exact o_areturn X1 hx hret hlk rfl rfl (hb hby d_method_2_code_62) (by decide) (by decide) e1 ⟨rfl, rfl, rfl⟩
theorem o_ef14 (m : MethodId)  : entryFrame m #[(.int (6 : Int32))] 1 = mkF m 0 #[.val (.int (6 : Int32))] [] := by first | (simp [entryFrame, mkF, argsToLocals, Value.category]; done) | rfl
set_option maxRecDepth 65536 in
set_option maxHeartbeats 40000000 in
theorem c_for_6 (l : Launch) (Z : State) (a0 : Array Value) (hw : ∀ d ∈ tables_1, d.before a0 Z = true) (b : Addr) (kb : ClassId) (s0 : Addr) (s1 : Addr) (s2 : Addr) (s3 : Addr) (s4 : Addr) (s5 : Addr) (s6 : Addr) (s7 : Addr) (h0 : Heap) (pS_BY_CODE : Sta Z h0 "com/example/codicil/codicil/FieldKind" "BY_CODE" "[Lcom/example/codicil/codicil/FieldKind;" (.ref b)) (pV_b : Arv Z h0 b kb (.object "com/example/codicil/codicil/FieldKind") (8 : Int32) [(.ref s0), (.ref s1), (.ref s2), (.ref s3), (.ref s4), (.ref s5), (.ref s6), (.ref s7)] .null) :
    Does l Z (⟨"com/example/codicil/codicil/FieldKind", "forCode", "(I)Lcom/example/codicil/codicil/FieldKind;"⟩ : MethodName) prog_8_method_5_code 1 (some (.object "com/example/codicil/codicil/FieldKind")) [] ({ frames := 0, cells := 0, slots := 0, locals := 0 } : Room) #[(.int (6 : Int32))] h0 (Pur h0 (.ref s6)) := by
  refine Does.of (plainFor_of_name o_pn1) ?_
  intro p e s m below meth c T0 hx hby hml hown hnm hret hlk hZ X0 e0
  have hown : s.vm.findClass "com/example/codicil/codicil/FieldKind" = some m.cls := hown
  have hml : c.maxLocals = 1 := hml
  have hret : meth.sig.returnType = some (.object "com/example/codicil/codicil/FieldKind") := hret
  refine o_entry (o_ef14 m ) ?_
  refine o_iloadN X0 hx (hb hby d_prog_8_method_5_code_0) (v := (6 : Int32)) rfl (n := 1) rfl ?_
  refine o_ifN X0 hx (hb hby d_prog_8_method_5_code_1) (XT.i0_lt_f (by decide)) (n := 4) rfl ?_
  refine o_iloadN X0 hx (hb hby d_prog_8_method_5_code_4) (v := (6 : Int32)) rfl (n := 5) rfl ?_
  refine o_getstatic X0 hx hZ hown (host := "") (Or.inl (hw _ (List.mem_of_getElem? (i := 10) rfl))) Via.refl e0 pS_BY_CODE (hb hby d_prog_8_method_5_code_5) (n := 8) rfl ?_
  intro T1 X1 e1
  refine o_arraylength X1 hx hZ e1 pV_b (hb hby d_prog_8_method_5_code_8) (n := 9) rfl ?_
  refine o_icmpY X1 hx (hb hby d_prog_8_method_5_code_9) (XT.ii_lt_t (by decide)) (by decide) (n := 26) (by decide) ?_
  refine o_getstatic X1 hx hZ hown (host := "") (Or.inl (hw _ (List.mem_of_getElem? (i := 10) rfl))) Via.refl e1 pS_BY_CODE (hb hby d_prog_8_method_5_code_26) (n := 29) rfl ?_
  intro T2 X2 e2
  refine o_iloadN X2 hx (hb hby d_prog_8_method_5_code_29) (v := (6 : Int32)) rfl (n := 30) rfl ?_
  refine o_aaload X2 hx hZ e2 pV_b rfl (6) (by decide) (by decide) (v := (.ref s6)) rfl (hb hby d_prog_8_method_5_code_30) (n := 31) rfl ?_
  exact o_areturn X2 hx hret hlk rfl rfl (hb hby d_prog_8_method_5_code_31) (by decide) (by decide) e2 ⟨rfl, rfl, rfl⟩
theorem d_method_2_code_63 : decode method_2_code 63 = .ok (.getstatic 31, 3) := by decide +kernel
theorem d_method_2_code_66 : decode method_2_code 66 = .ok (.areturn, 1) := by decide +kernel
theorem o_ef15 (m : MethodId)  : entryFrame m #[(.int (7 : Int32))] 1 = mkF m 0 #[.val (.int (7 : Int32))] [] := by first | (simp [entryFrame, mkF, argsToLocals, Value.category]; done) | rfl
set_option maxRecDepth 65536 in
set_option maxHeartbeats 40000000 in
theorem c_exp_7 (l : Launch) (Z : State) (a0 : Array Value) (hw : ∀ d ∈ tables_1, d.before a0 Z = true) (s : Addr) (h0 : Heap) (pS_REFERENCE : Sta Z h0 "com/example/codicil/codicil/FieldKind" "REFERENCE" "Lcom/example/codicil/codicil/FieldKind;" (.ref s)) :
    Does l Z (⟨"com/example/codicil/codicil/FieldKindForCodePinLaw", "expected", "(I)Lcom/example/codicil/codicil/FieldKind;"⟩ : MethodName) method_2_code 1 (some (.object "com/example/codicil/codicil/FieldKind")) [] ({ frames := 0, cells := 0, slots := 0, locals := 0 } : Room) #[(.int (7 : Int32))] h0 (Pur h0 (.ref s)) := by
  refine Does.of (plainFor_of_name o_pn0) ?_
  intro p e s m below meth c T0 hx hby hml hown hnm hret hlk hZ X0 e0
  have hown : s.vm.findClass "com/example/codicil/codicil/FieldKindForCodePinLaw" = some m.cls := hown
  have hml : c.maxLocals = 1 := hml
  have hret : meth.sig.returnType = some (.object "com/example/codicil/codicil/FieldKind") := hret
  refine o_entry (o_ef15 m ) ?_
  refine o_iloadN X0 hx (hb hby d_method_2_code_0) (v := (7 : Int32)) rfl (n := 1) rfl ?_
  refine o_ifY X0 hx (hb hby d_method_2_code_1) (XT.i0_ne_t (by decide)) (by decide) (n := 8) (by decide) ?_
  refine o_iloadN X0 hx (hb hby d_method_2_code_8) (v := (7 : Int32)) rfl (n := 9) rfl ?_
  refine o_iconst X0 hx (hb hby d_method_2_code_9) (v := (1 : Int32)) rfl (n := 10) rfl ?_
  refine o_icmpY X0 hx (hb hby d_method_2_code_10) (XT.ii_ne_t (by decide)) (by decide) (n := 17) (by decide) ?_
  refine o_iloadN X0 hx (hb hby d_method_2_code_17) (v := (7 : Int32)) rfl (n := 18) rfl ?_
  refine o_iconst X0 hx (hb hby d_method_2_code_18) (v := (2 : Int32)) rfl (n := 19) rfl ?_
  refine o_icmpY X0 hx (hb hby d_method_2_code_19) (XT.ii_ne_t (by decide)) (by decide) (n := 26) (by decide) ?_
  refine o_iloadN X0 hx (hb hby d_method_2_code_26) (v := (7 : Int32)) rfl (n := 27) rfl ?_
  refine o_iconst X0 hx (hb hby d_method_2_code_27) (v := (3 : Int32)) rfl (n := 28) rfl ?_
  refine o_icmpY X0 hx (hb hby d_method_2_code_28) (XT.ii_ne_t (by decide)) (by decide) (n := 35) (by decide) ?_
  refine o_iloadN X0 hx (hb hby d_method_2_code_35) (v := (7 : Int32)) rfl (n := 36) rfl ?_
  refine o_iconst X0 hx (hb hby d_method_2_code_36) (v := (4 : Int32)) rfl (n := 37) rfl ?_
  refine o_icmpY X0 hx (hb hby d_method_2_code_37) (XT.ii_ne_t (by decide)) (by decide) (n := 44) (by decide) ?_
  refine o_iloadN X0 hx (hb hby d_method_2_code_44) (v := (7 : Int32)) rfl (n := 45) rfl ?_
  refine o_iconst X0 hx (hb hby d_method_2_code_45) (v := (5 : Int32)) rfl (n := 46) rfl ?_
  refine o_icmpY X0 hx (hb hby d_method_2_code_46) (XT.ii_ne_t (by decide)) (by decide) (n := 53) (by decide) ?_
  refine o_iloadN X0 hx (hb hby d_method_2_code_53) (v := (7 : Int32)) rfl (n := 54) rfl ?_
  refine o_bipush X0 hx (hb hby d_method_2_code_54) (v := (6 : Int32)) rfl (n := 56) rfl ?_
  refine o_icmpY X0 hx (hb hby d_method_2_code_56) (XT.ii_ne_t (by decide)) (by decide) (n := 63) (by decide) ?_
  refine o_getstatic X0 hx hZ hown (host := "") (Or.inl (hw _ (List.mem_of_getElem? (i := 23) rfl))) Via.refl e0 pS_REFERENCE (hb hby d_method_2_code_63) (n := 66) rfl ?_
  intro T1 X1 e1
  exact o_areturn X1 hx hret hlk rfl rfl (hb hby d_method_2_code_66) (by decide) (by decide) e1 ⟨rfl, rfl, rfl⟩
theorem o_ef16 (m : MethodId)  : entryFrame m #[(.int (7 : Int32))] 1 = mkF m 0 #[.val (.int (7 : Int32))] [] := by first | (simp [entryFrame, mkF, argsToLocals, Value.category]; done) | rfl
set_option maxRecDepth 65536 in
set_option maxHeartbeats 40000000 in
theorem c_for_7 (l : Launch) (Z : State) (a0 : Array Value) (hw : ∀ d ∈ tables_1, d.before a0 Z = true) (b : Addr) (kb : ClassId) (s0 : Addr) (s1 : Addr) (s2 : Addr) (s3 : Addr) (s4 : Addr) (s5 : Addr) (s6 : Addr) (s7 : Addr) (h0 : Heap) (pS_BY_CODE : Sta Z h0 "com/example/codicil/codicil/FieldKind" "BY_CODE" "[Lcom/example/codicil/codicil/FieldKind;" (.ref b)) (pV_b : Arv Z h0 b kb (.object "com/example/codicil/codicil/FieldKind") (8 : Int32) [(.ref s0), (.ref s1), (.ref s2), (.ref s3), (.ref s4), (.ref s5), (.ref s6), (.ref s7)] .null) :
    Does l Z (⟨"com/example/codicil/codicil/FieldKind", "forCode", "(I)Lcom/example/codicil/codicil/FieldKind;"⟩ : MethodName) prog_8_method_5_code 1 (some (.object "com/example/codicil/codicil/FieldKind")) [] ({ frames := 0, cells := 0, slots := 0, locals := 0 } : Room) #[(.int (7 : Int32))] h0 (Pur h0 (.ref s7)) := by
  refine Does.of (plainFor_of_name o_pn1) ?_
  intro p e s m below meth c T0 hx hby hml hown hnm hret hlk hZ X0 e0
  have hown : s.vm.findClass "com/example/codicil/codicil/FieldKind" = some m.cls := hown
  have hml : c.maxLocals = 1 := hml
  have hret : meth.sig.returnType = some (.object "com/example/codicil/codicil/FieldKind") := hret
  refine o_entry (o_ef16 m ) ?_
  refine o_iloadN X0 hx (hb hby d_prog_8_method_5_code_0) (v := (7 : Int32)) rfl (n := 1) rfl ?_
  refine o_ifN X0 hx (hb hby d_prog_8_method_5_code_1) (XT.i0_lt_f (by decide)) (n := 4) rfl ?_
  refine o_iloadN X0 hx (hb hby d_prog_8_method_5_code_4) (v := (7 : Int32)) rfl (n := 5) rfl ?_
  refine o_getstatic X0 hx hZ hown (host := "") (Or.inl (hw _ (List.mem_of_getElem? (i := 10) rfl))) Via.refl e0 pS_BY_CODE (hb hby d_prog_8_method_5_code_5) (n := 8) rfl ?_
  intro T1 X1 e1
  refine o_arraylength X1 hx hZ e1 pV_b (hb hby d_prog_8_method_5_code_8) (n := 9) rfl ?_
  refine o_icmpY X1 hx (hb hby d_prog_8_method_5_code_9) (XT.ii_lt_t (by decide)) (by decide) (n := 26) (by decide) ?_
  refine o_getstatic X1 hx hZ hown (host := "") (Or.inl (hw _ (List.mem_of_getElem? (i := 10) rfl))) Via.refl e1 pS_BY_CODE (hb hby d_prog_8_method_5_code_26) (n := 29) rfl ?_
  intro T2 X2 e2
  refine o_iloadN X2 hx (hb hby d_prog_8_method_5_code_29) (v := (7 : Int32)) rfl (n := 30) rfl ?_
  refine o_aaload X2 hx hZ e2 pV_b rfl (7) (by decide) (by decide) (v := (.ref s7)) rfl (hb hby d_prog_8_method_5_code_30) (n := 31) rfl ?_
  exact o_areturn X2 hx hret hlk rfl rfl (hb hby d_prog_8_method_5_code_31) (by decide) (by decide) e2 ⟨rfl, rfl, rfl⟩
theorem d_prog_8_method_4_code_0 : decode prog_8_method_4_code 0 = .ok (.aload_n 0, 1) := by decide +kernel
theorem d_prog_8_method_4_code_1 : decode prog_8_method_4_code 1 = .ok (.getfield 47, 3) := by decide +kernel
theorem d_prog_8_method_4_code_4 : decode prog_8_method_4_code 4 = .ok (.ireturn, 1) := by decide +kernel
theorem o_ef17 (m : MethodId) (a1 : Addr) : entryFrame m #[(.ref a1)] 1 = mkF m 0 #[.val (.ref a1)] [] := by first | (simp [entryFrame, mkF, argsToLocals, Value.category]; done) | rfl
set_option maxRecDepth 65536 in
set_option maxHeartbeats 40000000 in
theorem c_code (l : Launch) (Z : State) (a0 : Array Value) (hw : ∀ d ∈ tables_1, d.before a0 Z = true) (a1 : Addr) (w : Int32) (h0 : Heap) (pF_a1_code : Fld Z h0 a1 "com/example/codicil/codicil/FieldKind" "code" "I" (.int w)) :
    Does l Z (⟨"com/example/codicil/codicil/FieldKind", "code", "()I"⟩ : MethodName) prog_8_method_4_code 1 (some .int) [] ({ frames := 0, cells := 0, slots := 0, locals := 0 } : Room) #[(.ref a1)] h0 (Pur h0 (.int w)) := by
  refine Does.of (plainFor_of_name o_pn1) ?_
  intro p e s m below meth c T0 hx hby hml hown hnm hret hlk hZ X0 e0
  have hown : s.vm.findClass "com/example/codicil/codicil/FieldKind" = some m.cls := hown
  have hml : c.maxLocals = 1 := hml
  have hret : meth.sig.returnType = some .int := hret
  refine o_entry (o_ef17 m a1) ?_
  refine o_aloadN X0 hx (hb hby d_prog_8_method_4_code_0) (v := (.ref a1)) rfl rfl (n := 1) rfl ?_
  refine o_getfield X0 hx hZ hown (host := "") (Or.inl (hw _ (List.mem_of_getElem? (i := 17) rfl))) Via.refl e0 pF_a1_code (hb hby d_prog_8_method_4_code_1) (n := 4) rfl ?_
  intro T1 X1 e1
  exact o_ireturn X1 hx hret hlk (hb hby d_prog_8_method_4_code_4) (by decide) (by decide) e1 ⟨rfl, rfl, rfl⟩
theorem o_pd0 : parseMethodDescriptor "(I)Lcom/example/codicil/codicil/FieldKind;" = some ⟨[.int], some (.object "com/example/codicil/codicil/FieldKind")⟩ := by decide +kernel
theorem o_pd1 : parseMethodDescriptor "()I" = some ⟨[], some .int⟩ := by decide +kernel
theorem o_ef18 (m : MethodId) (p0 : Int32) : entryFrame m #[(.int p0)] maxLocals = mkF m 0 #[.val (.int p0), .unset, .unset, .unset] [] := by first | (simp [entryFrame, mkF, argsToLocals, Value.category, maxLocals]; done) | rfl
set_option maxRecDepth 65536 in
set_option maxHeartbeats 40000000 in
theorem o_law (l : Launch) (Z : State) (a0 : Array Value) (hw : ∀ d ∈ tables_1, d.before a0 Z = true) (p0 : Int32) (h0 : Heap) (n0 : Nat) (Z0 : n0 ≤ h0.size) (b : Addr) (kb : ClassId) (s0 : Addr) (s1 : Addr) (s2 : Addr) (s3 : Addr) (s4 : Addr) (s5 : Addr) (s6 : Addr) (s7 : Addr) (pS_BY_CODE : Sta Z h0 "com/example/codicil/codicil/FieldKind" "BY_CODE" "[Lcom/example/codicil/codicil/FieldKind;" (.ref b)) (pV_b : Arv Z h0 b kb (.object "com/example/codicil/codicil/FieldKind") (8 : Int32) [(.ref s0), (.ref s1), (.ref s2), (.ref s3), (.ref s4), (.ref s5), (.ref s6), (.ref s7)] .null) (pS_INT : Sta Z h0 "com/example/codicil/codicil/FieldKind" "INT" "Lcom/example/codicil/codicil/FieldKind;" (.ref s0)) (pE_s0 : Exa Z h0 s0 "com/example/codicil/codicil/FieldKind") (pF_s0_code : Fld Z h0 s0 "com/example/codicil/codicil/FieldKind" "code" "I" (.int (0 : Int32))) (pS_LONG : Sta Z h0 "com/example/codicil/codicil/FieldKind" "LONG" "Lcom/example/codicil/codicil/FieldKind;" (.ref s1)) (pE_s1 : Exa Z h0 s1 "com/example/codicil/codicil/FieldKind") (pF_s1_code : Fld Z h0 s1 "com/example/codicil/codicil/FieldKind" "code" "I" (.int (1 : Int32))) (pS_BOOLEAN : Sta Z h0 "com/example/codicil/codicil/FieldKind" "BOOLEAN" "Lcom/example/codicil/codicil/FieldKind;" (.ref s2)) (pE_s2 : Exa Z h0 s2 "com/example/codicil/codicil/FieldKind") (pF_s2_code : Fld Z h0 s2 "com/example/codicil/codicil/FieldKind" "code" "I" (.int (2 : Int32))) (pS_FLOAT : Sta Z h0 "com/example/codicil/codicil/FieldKind" "FLOAT" "Lcom/example/codicil/codicil/FieldKind;" (.ref s3)) (pE_s3 : Exa Z h0 s3 "com/example/codicil/codicil/FieldKind") (pF_s3_code : Fld Z h0 s3 "com/example/codicil/codicil/FieldKind" "code" "I" (.int (3 : Int32))) (pS_DOUBLE : Sta Z h0 "com/example/codicil/codicil/FieldKind" "DOUBLE" "Lcom/example/codicil/codicil/FieldKind;" (.ref s4)) (pE_s4 : Exa Z h0 s4 "com/example/codicil/codicil/FieldKind") (pF_s4_code : Fld Z h0 s4 "com/example/codicil/codicil/FieldKind" "code" "I" (.int (4 : Int32))) (pS_STRING : Sta Z h0 "com/example/codicil/codicil/FieldKind" "STRING" "Lcom/example/codicil/codicil/FieldKind;" (.ref s5)) (pE_s5 : Exa Z h0 s5 "com/example/codicil/codicil/FieldKind") (pF_s5_code : Fld Z h0 s5 "com/example/codicil/codicil/FieldKind" "code" "I" (.int (5 : Int32))) (pS_BYTES : Sta Z h0 "com/example/codicil/codicil/FieldKind" "BYTES" "Lcom/example/codicil/codicil/FieldKind;" (.ref s6)) (pE_s6 : Exa Z h0 s6 "com/example/codicil/codicil/FieldKind") (pF_s6_code : Fld Z h0 s6 "com/example/codicil/codicil/FieldKind" "code" "I" (.int (6 : Int32))) (pS_REFERENCE : Sta Z h0 "com/example/codicil/codicil/FieldKind" "REFERENCE" "Lcom/example/codicil/codicil/FieldKind;" (.ref s7)) (pE_s7 : Exa Z h0 s7 "com/example/codicil/codicil/FieldKind") (pF_s7_code : Fld Z h0 s7 "com/example/codicil/codicil/FieldKind" "code" "I" (.int (7 : Int32))) :
    Does l Z x code maxLocals ret tables_1 room_1 #[(.int p0)] h0 (fun v h L => v = some (.int 1) ∧ Fr n0 L) := by
  refine Does.of (plainFor_of_name o_pn0) ?_
  intro p e s m below meth c T0 hx hby hml hown hnm hret hlk hZ X0 e0
  have hown : s.vm.findClass "com/example/codicil/codicil/FieldKindForCodePinLaw" = some m.cls := hown
  have hml : c.maxLocals = 4 := hml
  have hret : meth.sig.returnType = some .boolean := hret
  refine o_entry (o_ef18 m p0) ?_
  have N0 := Fr.nil n0
  rcases o_and7 p0 with q | q | q | q | q | q | q | q
  · refine o_iloadN X0 hx (hb hby at_0) (v := p0) rfl (n := 1) rfl ?_
    refine o_bipush X0 hx (hb hby at_1) (v := (7 : Int32)) rfl (n := 3) rfl ?_
    refine o_iand X0 hx (hb hby at_3) (v := (0 : Int32)) q (n := 4) rfl ?_
    refine o_istoreN X0 hx (hb hby at_4) (Ls' := #[.val (.int p0), .val (.int (0 : Int32)), .unset, .unset]) rfl (n := 5) rfl ?_
    refine o_iloadN X0 hx (hb hby at_5) (v := (0 : Int32)) rfl (n := 6) rfl ?_
    refine o_callS X0 hx hZ hown (hw _ (List.mem_of_getElem? (i := 0) rfl)) (hw _ (List.mem_of_getElem? (i := 1) rfl)) (hw _ (List.mem_of_getElem? (i := 2) rfl)) (hw _ (List.mem_of_getElem? (i := 3) rfl)) (by decide) e0 (argsL := [(.int (0 : Int32))]) (rest := []) (c_exp_0 l Z a0 hw s0 h0 pS_INT) 0 (by decide) (by decide) (by decide) (by decide) (by rw [hml]; rfl) (lenOf o_pd0 rfl) rfl (Nat.le_of_eq rfl) (hb hby at_6) (n := 9) rfl ?_
    intro v1 T1 L1 X1 q1
    obtain ⟨rfl, e1, rfl⟩ := q1
    have N2 := Fr.app N0 (Fr.nil n0)
    show Goes p e below s _ _ _ (T1.setTop (mkF m 9 #[.val (.int p0), .val (.int (0 : Int32)), .unset, .unset] [(.ref s0)]))
    refine o_astoreN X1 hx (hb hby at_9) rfl (Ls' := #[.val (.int p0), .val (.int (0 : Int32)), .val (.ref s0), .unset]) rfl (n := 10) rfl ?_
    refine o_iloadN X1 hx (hb hby at_10) (v := (0 : Int32)) rfl (n := 11) rfl ?_
    refine o_callS X1 hx hZ hown (hw _ (List.mem_of_getElem? (i := 7) rfl)) (hw _ (List.mem_of_getElem? (i := 8) rfl)) (hw _ (List.mem_of_getElem? (i := 5) rfl)) (hw _ (List.mem_of_getElem? (i := 9) rfl)) (by decide) e1 (argsL := [(.int (0 : Int32))]) (rest := []) (c_for_0 l Z a0 hw b kb s0 s1 s2 s3 s4 s5 s6 s7 h0 pS_BY_CODE pV_b) 0 (by decide) (by decide) (by decide) (by decide) (by rw [hml]; rfl) (lenOf o_pd0 rfl) rfl (Nat.le_of_eq rfl) (hb hby at_11) (n := 14) rfl ?_
    intro v3 T3 L3 X3 q3
    obtain ⟨rfl, e3, rfl⟩ := q3
    have N4 := Fr.app N2 (Fr.nil n0)
    show Goes p e below s _ _ _ (T3.setTop (mkF m 14 #[.val (.int p0), .val (.int (0 : Int32)), .val (.ref s0), .unset] [(.ref s0)]))
    refine o_astoreN X3 hx (hb hby at_14) rfl (Ls' := #[.val (.int p0), .val (.int (0 : Int32)), .val (.ref s0), .val (.ref s0)]) rfl (n := 15) rfl ?_
    refine o_aloadN X3 hx (hb hby at_15) (v := (.ref s0)) rfl rfl (n := 16) rfl ?_
    refine o_aloadN X3 hx (hb hby at_16) (v := (.ref s0)) rfl rfl (n := 17) rfl ?_
    refine o_acmp X3 hx (hb hby at_17) rfl rfl (same := true) (decide_eq_true rfl) (by decide) (n := 20) (by decide) ?_
    refine o_aloadN X3 hx (hb hby at_20) (v := (.ref s0)) rfl rfl (n := 21) rfl ?_
    refine o_callV X3 hx hZ hown (hw _ (List.mem_of_getElem? (i := 12) rfl)) (hw _ (List.mem_of_getElem? (i := 13) rfl)) (hw _ (List.mem_of_getElem? (i := 15) rfl)) (hw _ (List.mem_of_getElem? (i := 14) rfl)) (hw _ (List.mem_of_getElem? (i := 5) rfl)) (hw _ (List.mem_of_getElem? (i := 16) rfl)) (by decide) e3 pE_s0 (argsL := []) (rest := []) (c_code l Z a0 hw s0 (0 : Int32) h0 pF_s0_code) 0 (by decide) (by decide) (by decide) (by decide) (by rw [hml]; rfl) (lenOf o_pd1 rfl) rfl (Nat.le_of_eq rfl) (hb hby at_21) (n := 24) rfl ?_
    intro v5 T5 L5 X5 q5
    obtain ⟨rfl, e5, rfl⟩ := q5
    have N6 := Fr.app N4 (Fr.nil n0)
    show Goes p e below s _ _ _ (T5.setTop (mkF m 24 #[.val (.int p0), .val (.int (0 : Int32)), .val (.ref s0), .val (.ref s0)] [(.int (0 : Int32))]))
    refine o_iloadN X5 hx (hb hby at_24) (v := (0 : Int32)) rfl (n := 25) rfl ?_
    refine o_icmpN X5 hx (hb hby at_25) (XT.ii_ne_f (by decide)) (n := 28) rfl ?_
    refine o_iconst X5 hx (hb hby at_28) (v := (1 : Int32)) rfl (n := 29) rfl ?_
    refine o_goto X5 hx (hb hby at_29) (by decide) (n := 33) (by decide) ?_
    exact o_nreturn X5 hx hret hlk (t := .boolean) (by simp) (hb hby at_33) (by decide) (by decide) e5 ⟨rfl, N6⟩
  · refine o_iloadN X0 hx (hb hby at_0) (v := p0) rfl (n := 1) rfl ?_
    refine o_bipush X0 hx (hb hby at_1) (v := (7 : Int32)) rfl (n := 3) rfl ?_
    refine o_iand X0 hx (hb hby at_3) (v := (1 : Int32)) q (n := 4) rfl ?_
    refine o_istoreN X0 hx (hb hby at_4) (Ls' := #[.val (.int p0), .val (.int (1 : Int32)), .unset, .unset]) rfl (n := 5) rfl ?_
    refine o_iloadN X0 hx (hb hby at_5) (v := (1 : Int32)) rfl (n := 6) rfl ?_
    refine o_callS X0 hx hZ hown (hw _ (List.mem_of_getElem? (i := 0) rfl)) (hw _ (List.mem_of_getElem? (i := 1) rfl)) (hw _ (List.mem_of_getElem? (i := 2) rfl)) (hw _ (List.mem_of_getElem? (i := 3) rfl)) (by decide) e0 (argsL := [(.int (1 : Int32))]) (rest := []) (c_exp_1 l Z a0 hw s1 h0 pS_LONG) 0 (by decide) (by decide) (by decide) (by decide) (by rw [hml]; rfl) (lenOf o_pd0 rfl) rfl (Nat.le_of_eq rfl) (hb hby at_6) (n := 9) rfl ?_
    intro v7 T7 L7 X7 q7
    obtain ⟨rfl, e7, rfl⟩ := q7
    have N8 := Fr.app N0 (Fr.nil n0)
    show Goes p e below s _ _ _ (T7.setTop (mkF m 9 #[.val (.int p0), .val (.int (1 : Int32)), .unset, .unset] [(.ref s1)]))
    refine o_astoreN X7 hx (hb hby at_9) rfl (Ls' := #[.val (.int p0), .val (.int (1 : Int32)), .val (.ref s1), .unset]) rfl (n := 10) rfl ?_
    refine o_iloadN X7 hx (hb hby at_10) (v := (1 : Int32)) rfl (n := 11) rfl ?_
    refine o_callS X7 hx hZ hown (hw _ (List.mem_of_getElem? (i := 7) rfl)) (hw _ (List.mem_of_getElem? (i := 8) rfl)) (hw _ (List.mem_of_getElem? (i := 5) rfl)) (hw _ (List.mem_of_getElem? (i := 9) rfl)) (by decide) e7 (argsL := [(.int (1 : Int32))]) (rest := []) (c_for_1 l Z a0 hw b kb s0 s1 s2 s3 s4 s5 s6 s7 h0 pS_BY_CODE pV_b) 0 (by decide) (by decide) (by decide) (by decide) (by rw [hml]; rfl) (lenOf o_pd0 rfl) rfl (Nat.le_of_eq rfl) (hb hby at_11) (n := 14) rfl ?_
    intro v9 T9 L9 X9 q9
    obtain ⟨rfl, e9, rfl⟩ := q9
    have N10 := Fr.app N8 (Fr.nil n0)
    show Goes p e below s _ _ _ (T9.setTop (mkF m 14 #[.val (.int p0), .val (.int (1 : Int32)), .val (.ref s1), .unset] [(.ref s1)]))
    refine o_astoreN X9 hx (hb hby at_14) rfl (Ls' := #[.val (.int p0), .val (.int (1 : Int32)), .val (.ref s1), .val (.ref s1)]) rfl (n := 15) rfl ?_
    refine o_aloadN X9 hx (hb hby at_15) (v := (.ref s1)) rfl rfl (n := 16) rfl ?_
    refine o_aloadN X9 hx (hb hby at_16) (v := (.ref s1)) rfl rfl (n := 17) rfl ?_
    refine o_acmp X9 hx (hb hby at_17) rfl rfl (same := true) (decide_eq_true rfl) (by decide) (n := 20) (by decide) ?_
    refine o_aloadN X9 hx (hb hby at_20) (v := (.ref s1)) rfl rfl (n := 21) rfl ?_
    refine o_callV X9 hx hZ hown (hw _ (List.mem_of_getElem? (i := 12) rfl)) (hw _ (List.mem_of_getElem? (i := 13) rfl)) (hw _ (List.mem_of_getElem? (i := 15) rfl)) (hw _ (List.mem_of_getElem? (i := 14) rfl)) (hw _ (List.mem_of_getElem? (i := 5) rfl)) (hw _ (List.mem_of_getElem? (i := 16) rfl)) (by decide) e9 pE_s1 (argsL := []) (rest := []) (c_code l Z a0 hw s1 (1 : Int32) h0 pF_s1_code) 0 (by decide) (by decide) (by decide) (by decide) (by rw [hml]; rfl) (lenOf o_pd1 rfl) rfl (Nat.le_of_eq rfl) (hb hby at_21) (n := 24) rfl ?_
    intro v11 T11 L11 X11 q11
    obtain ⟨rfl, e11, rfl⟩ := q11
    have N12 := Fr.app N10 (Fr.nil n0)
    show Goes p e below s _ _ _ (T11.setTop (mkF m 24 #[.val (.int p0), .val (.int (1 : Int32)), .val (.ref s1), .val (.ref s1)] [(.int (1 : Int32))]))
    refine o_iloadN X11 hx (hb hby at_24) (v := (1 : Int32)) rfl (n := 25) rfl ?_
    refine o_icmpN X11 hx (hb hby at_25) (XT.ii_ne_f (by decide)) (n := 28) rfl ?_
    refine o_iconst X11 hx (hb hby at_28) (v := (1 : Int32)) rfl (n := 29) rfl ?_
    refine o_goto X11 hx (hb hby at_29) (by decide) (n := 33) (by decide) ?_
    exact o_nreturn X11 hx hret hlk (t := .boolean) (by simp) (hb hby at_33) (by decide) (by decide) e11 ⟨rfl, N12⟩
  · refine o_iloadN X0 hx (hb hby at_0) (v := p0) rfl (n := 1) rfl ?_
    refine o_bipush X0 hx (hb hby at_1) (v := (7 : Int32)) rfl (n := 3) rfl ?_
    refine o_iand X0 hx (hb hby at_3) (v := (2 : Int32)) q (n := 4) rfl ?_
    refine o_istoreN X0 hx (hb hby at_4) (Ls' := #[.val (.int p0), .val (.int (2 : Int32)), .unset, .unset]) rfl (n := 5) rfl ?_
    refine o_iloadN X0 hx (hb hby at_5) (v := (2 : Int32)) rfl (n := 6) rfl ?_
    refine o_callS X0 hx hZ hown (hw _ (List.mem_of_getElem? (i := 0) rfl)) (hw _ (List.mem_of_getElem? (i := 1) rfl)) (hw _ (List.mem_of_getElem? (i := 2) rfl)) (hw _ (List.mem_of_getElem? (i := 3) rfl)) (by decide) e0 (argsL := [(.int (2 : Int32))]) (rest := []) (c_exp_2 l Z a0 hw s2 h0 pS_BOOLEAN) 0 (by decide) (by decide) (by decide) (by decide) (by rw [hml]; rfl) (lenOf o_pd0 rfl) rfl (Nat.le_of_eq rfl) (hb hby at_6) (n := 9) rfl ?_
    intro v13 T13 L13 X13 q13
    obtain ⟨rfl, e13, rfl⟩ := q13
    have N14 := Fr.app N0 (Fr.nil n0)
    show Goes p e below s _ _ _ (T13.setTop (mkF m 9 #[.val (.int p0), .val (.int (2 : Int32)), .unset, .unset] [(.ref s2)]))
    refine o_astoreN X13 hx (hb hby at_9) rfl (Ls' := #[.val (.int p0), .val (.int (2 : Int32)), .val (.ref s2), .unset]) rfl (n := 10) rfl ?_
    refine o_iloadN X13 hx (hb hby at_10) (v := (2 : Int32)) rfl (n := 11) rfl ?_
    refine o_callS X13 hx hZ hown (hw _ (List.mem_of_getElem? (i := 7) rfl)) (hw _ (List.mem_of_getElem? (i := 8) rfl)) (hw _ (List.mem_of_getElem? (i := 5) rfl)) (hw _ (List.mem_of_getElem? (i := 9) rfl)) (by decide) e13 (argsL := [(.int (2 : Int32))]) (rest := []) (c_for_2 l Z a0 hw b kb s0 s1 s2 s3 s4 s5 s6 s7 h0 pS_BY_CODE pV_b) 0 (by decide) (by decide) (by decide) (by decide) (by rw [hml]; rfl) (lenOf o_pd0 rfl) rfl (Nat.le_of_eq rfl) (hb hby at_11) (n := 14) rfl ?_
    intro v15 T15 L15 X15 q15
    obtain ⟨rfl, e15, rfl⟩ := q15
    have N16 := Fr.app N14 (Fr.nil n0)
    show Goes p e below s _ _ _ (T15.setTop (mkF m 14 #[.val (.int p0), .val (.int (2 : Int32)), .val (.ref s2), .unset] [(.ref s2)]))
    refine o_astoreN X15 hx (hb hby at_14) rfl (Ls' := #[.val (.int p0), .val (.int (2 : Int32)), .val (.ref s2), .val (.ref s2)]) rfl (n := 15) rfl ?_
    refine o_aloadN X15 hx (hb hby at_15) (v := (.ref s2)) rfl rfl (n := 16) rfl ?_
    refine o_aloadN X15 hx (hb hby at_16) (v := (.ref s2)) rfl rfl (n := 17) rfl ?_
    refine o_acmp X15 hx (hb hby at_17) rfl rfl (same := true) (decide_eq_true rfl) (by decide) (n := 20) (by decide) ?_
    refine o_aloadN X15 hx (hb hby at_20) (v := (.ref s2)) rfl rfl (n := 21) rfl ?_
    refine o_callV X15 hx hZ hown (hw _ (List.mem_of_getElem? (i := 12) rfl)) (hw _ (List.mem_of_getElem? (i := 13) rfl)) (hw _ (List.mem_of_getElem? (i := 15) rfl)) (hw _ (List.mem_of_getElem? (i := 14) rfl)) (hw _ (List.mem_of_getElem? (i := 5) rfl)) (hw _ (List.mem_of_getElem? (i := 16) rfl)) (by decide) e15 pE_s2 (argsL := []) (rest := []) (c_code l Z a0 hw s2 (2 : Int32) h0 pF_s2_code) 0 (by decide) (by decide) (by decide) (by decide) (by rw [hml]; rfl) (lenOf o_pd1 rfl) rfl (Nat.le_of_eq rfl) (hb hby at_21) (n := 24) rfl ?_
    intro v17 T17 L17 X17 q17
    obtain ⟨rfl, e17, rfl⟩ := q17
    have N18 := Fr.app N16 (Fr.nil n0)
    show Goes p e below s _ _ _ (T17.setTop (mkF m 24 #[.val (.int p0), .val (.int (2 : Int32)), .val (.ref s2), .val (.ref s2)] [(.int (2 : Int32))]))
    refine o_iloadN X17 hx (hb hby at_24) (v := (2 : Int32)) rfl (n := 25) rfl ?_
    refine o_icmpN X17 hx (hb hby at_25) (XT.ii_ne_f (by decide)) (n := 28) rfl ?_
    refine o_iconst X17 hx (hb hby at_28) (v := (1 : Int32)) rfl (n := 29) rfl ?_
    refine o_goto X17 hx (hb hby at_29) (by decide) (n := 33) (by decide) ?_
    exact o_nreturn X17 hx hret hlk (t := .boolean) (by simp) (hb hby at_33) (by decide) (by decide) e17 ⟨rfl, N18⟩
  · refine o_iloadN X0 hx (hb hby at_0) (v := p0) rfl (n := 1) rfl ?_
    refine o_bipush X0 hx (hb hby at_1) (v := (7 : Int32)) rfl (n := 3) rfl ?_
    refine o_iand X0 hx (hb hby at_3) (v := (3 : Int32)) q (n := 4) rfl ?_
    refine o_istoreN X0 hx (hb hby at_4) (Ls' := #[.val (.int p0), .val (.int (3 : Int32)), .unset, .unset]) rfl (n := 5) rfl ?_
    refine o_iloadN X0 hx (hb hby at_5) (v := (3 : Int32)) rfl (n := 6) rfl ?_
    refine o_callS X0 hx hZ hown (hw _ (List.mem_of_getElem? (i := 0) rfl)) (hw _ (List.mem_of_getElem? (i := 1) rfl)) (hw _ (List.mem_of_getElem? (i := 2) rfl)) (hw _ (List.mem_of_getElem? (i := 3) rfl)) (by decide) e0 (argsL := [(.int (3 : Int32))]) (rest := []) (c_exp_3 l Z a0 hw s3 h0 pS_FLOAT) 0 (by decide) (by decide) (by decide) (by decide) (by rw [hml]; rfl) (lenOf o_pd0 rfl) rfl (Nat.le_of_eq rfl) (hb hby at_6) (n := 9) rfl ?_
    intro v19 T19 L19 X19 q19
    obtain ⟨rfl, e19, rfl⟩ := q19
    have N20 := Fr.app N0 (Fr.nil n0)
    show Goes p e below s _ _ _ (T19.setTop (mkF m 9 #[.val (.int p0), .val (.int (3 : Int32)), .unset, .unset] [(.ref s3)]))
    refine o_astoreN X19 hx (hb hby at_9) rfl (Ls' := #[.val (.int p0), .val (.int (3 : Int32)), .val (.ref s3), .unset]) rfl (n := 10) rfl ?_
    refine o_iloadN X19 hx (hb hby at_10) (v := (3 : Int32)) rfl (n := 11) rfl ?_
    refine o_callS X19 hx hZ hown (hw _ (List.mem_of_getElem? (i := 7) rfl)) (hw _ (List.mem_of_getElem? (i := 8) rfl)) (hw _ (List.mem_of_getElem? (i := 5) rfl)) (hw _ (List.mem_of_getElem? (i := 9) rfl)) (by decide) e19 (argsL := [(.int (3 : Int32))]) (rest := []) (c_for_3 l Z a0 hw b kb s0 s1 s2 s3 s4 s5 s6 s7 h0 pS_BY_CODE pV_b) 0 (by decide) (by decide) (by decide) (by decide) (by rw [hml]; rfl) (lenOf o_pd0 rfl) rfl (Nat.le_of_eq rfl) (hb hby at_11) (n := 14) rfl ?_
    intro v21 T21 L21 X21 q21
    obtain ⟨rfl, e21, rfl⟩ := q21
    have N22 := Fr.app N20 (Fr.nil n0)
    show Goes p e below s _ _ _ (T21.setTop (mkF m 14 #[.val (.int p0), .val (.int (3 : Int32)), .val (.ref s3), .unset] [(.ref s3)]))
    refine o_astoreN X21 hx (hb hby at_14) rfl (Ls' := #[.val (.int p0), .val (.int (3 : Int32)), .val (.ref s3), .val (.ref s3)]) rfl (n := 15) rfl ?_
    refine o_aloadN X21 hx (hb hby at_15) (v := (.ref s3)) rfl rfl (n := 16) rfl ?_
    refine o_aloadN X21 hx (hb hby at_16) (v := (.ref s3)) rfl rfl (n := 17) rfl ?_
    refine o_acmp X21 hx (hb hby at_17) rfl rfl (same := true) (decide_eq_true rfl) (by decide) (n := 20) (by decide) ?_
    refine o_aloadN X21 hx (hb hby at_20) (v := (.ref s3)) rfl rfl (n := 21) rfl ?_
    refine o_callV X21 hx hZ hown (hw _ (List.mem_of_getElem? (i := 12) rfl)) (hw _ (List.mem_of_getElem? (i := 13) rfl)) (hw _ (List.mem_of_getElem? (i := 15) rfl)) (hw _ (List.mem_of_getElem? (i := 14) rfl)) (hw _ (List.mem_of_getElem? (i := 5) rfl)) (hw _ (List.mem_of_getElem? (i := 16) rfl)) (by decide) e21 pE_s3 (argsL := []) (rest := []) (c_code l Z a0 hw s3 (3 : Int32) h0 pF_s3_code) 0 (by decide) (by decide) (by decide) (by decide) (by rw [hml]; rfl) (lenOf o_pd1 rfl) rfl (Nat.le_of_eq rfl) (hb hby at_21) (n := 24) rfl ?_
    intro v23 T23 L23 X23 q23
    obtain ⟨rfl, e23, rfl⟩ := q23
    have N24 := Fr.app N22 (Fr.nil n0)
    show Goes p e below s _ _ _ (T23.setTop (mkF m 24 #[.val (.int p0), .val (.int (3 : Int32)), .val (.ref s3), .val (.ref s3)] [(.int (3 : Int32))]))
    refine o_iloadN X23 hx (hb hby at_24) (v := (3 : Int32)) rfl (n := 25) rfl ?_
    refine o_icmpN X23 hx (hb hby at_25) (XT.ii_ne_f (by decide)) (n := 28) rfl ?_
    refine o_iconst X23 hx (hb hby at_28) (v := (1 : Int32)) rfl (n := 29) rfl ?_
    refine o_goto X23 hx (hb hby at_29) (by decide) (n := 33) (by decide) ?_
    exact o_nreturn X23 hx hret hlk (t := .boolean) (by simp) (hb hby at_33) (by decide) (by decide) e23 ⟨rfl, N24⟩
  · refine o_iloadN X0 hx (hb hby at_0) (v := p0) rfl (n := 1) rfl ?_
    refine o_bipush X0 hx (hb hby at_1) (v := (7 : Int32)) rfl (n := 3) rfl ?_
    refine o_iand X0 hx (hb hby at_3) (v := (4 : Int32)) q (n := 4) rfl ?_
    refine o_istoreN X0 hx (hb hby at_4) (Ls' := #[.val (.int p0), .val (.int (4 : Int32)), .unset, .unset]) rfl (n := 5) rfl ?_
    refine o_iloadN X0 hx (hb hby at_5) (v := (4 : Int32)) rfl (n := 6) rfl ?_
    refine o_callS X0 hx hZ hown (hw _ (List.mem_of_getElem? (i := 0) rfl)) (hw _ (List.mem_of_getElem? (i := 1) rfl)) (hw _ (List.mem_of_getElem? (i := 2) rfl)) (hw _ (List.mem_of_getElem? (i := 3) rfl)) (by decide) e0 (argsL := [(.int (4 : Int32))]) (rest := []) (c_exp_4 l Z a0 hw s4 h0 pS_DOUBLE) 0 (by decide) (by decide) (by decide) (by decide) (by rw [hml]; rfl) (lenOf o_pd0 rfl) rfl (Nat.le_of_eq rfl) (hb hby at_6) (n := 9) rfl ?_
    intro v25 T25 L25 X25 q25
    obtain ⟨rfl, e25, rfl⟩ := q25
    have N26 := Fr.app N0 (Fr.nil n0)
    show Goes p e below s _ _ _ (T25.setTop (mkF m 9 #[.val (.int p0), .val (.int (4 : Int32)), .unset, .unset] [(.ref s4)]))
    refine o_astoreN X25 hx (hb hby at_9) rfl (Ls' := #[.val (.int p0), .val (.int (4 : Int32)), .val (.ref s4), .unset]) rfl (n := 10) rfl ?_
    refine o_iloadN X25 hx (hb hby at_10) (v := (4 : Int32)) rfl (n := 11) rfl ?_
    refine o_callS X25 hx hZ hown (hw _ (List.mem_of_getElem? (i := 7) rfl)) (hw _ (List.mem_of_getElem? (i := 8) rfl)) (hw _ (List.mem_of_getElem? (i := 5) rfl)) (hw _ (List.mem_of_getElem? (i := 9) rfl)) (by decide) e25 (argsL := [(.int (4 : Int32))]) (rest := []) (c_for_4 l Z a0 hw b kb s0 s1 s2 s3 s4 s5 s6 s7 h0 pS_BY_CODE pV_b) 0 (by decide) (by decide) (by decide) (by decide) (by rw [hml]; rfl) (lenOf o_pd0 rfl) rfl (Nat.le_of_eq rfl) (hb hby at_11) (n := 14) rfl ?_
    intro v27 T27 L27 X27 q27
    obtain ⟨rfl, e27, rfl⟩ := q27
    have N28 := Fr.app N26 (Fr.nil n0)
    show Goes p e below s _ _ _ (T27.setTop (mkF m 14 #[.val (.int p0), .val (.int (4 : Int32)), .val (.ref s4), .unset] [(.ref s4)]))
    refine o_astoreN X27 hx (hb hby at_14) rfl (Ls' := #[.val (.int p0), .val (.int (4 : Int32)), .val (.ref s4), .val (.ref s4)]) rfl (n := 15) rfl ?_
    refine o_aloadN X27 hx (hb hby at_15) (v := (.ref s4)) rfl rfl (n := 16) rfl ?_
    refine o_aloadN X27 hx (hb hby at_16) (v := (.ref s4)) rfl rfl (n := 17) rfl ?_
    refine o_acmp X27 hx (hb hby at_17) rfl rfl (same := true) (decide_eq_true rfl) (by decide) (n := 20) (by decide) ?_
    refine o_aloadN X27 hx (hb hby at_20) (v := (.ref s4)) rfl rfl (n := 21) rfl ?_
    refine o_callV X27 hx hZ hown (hw _ (List.mem_of_getElem? (i := 12) rfl)) (hw _ (List.mem_of_getElem? (i := 13) rfl)) (hw _ (List.mem_of_getElem? (i := 15) rfl)) (hw _ (List.mem_of_getElem? (i := 14) rfl)) (hw _ (List.mem_of_getElem? (i := 5) rfl)) (hw _ (List.mem_of_getElem? (i := 16) rfl)) (by decide) e27 pE_s4 (argsL := []) (rest := []) (c_code l Z a0 hw s4 (4 : Int32) h0 pF_s4_code) 0 (by decide) (by decide) (by decide) (by decide) (by rw [hml]; rfl) (lenOf o_pd1 rfl) rfl (Nat.le_of_eq rfl) (hb hby at_21) (n := 24) rfl ?_
    intro v29 T29 L29 X29 q29
    obtain ⟨rfl, e29, rfl⟩ := q29
    have N30 := Fr.app N28 (Fr.nil n0)
    show Goes p e below s _ _ _ (T29.setTop (mkF m 24 #[.val (.int p0), .val (.int (4 : Int32)), .val (.ref s4), .val (.ref s4)] [(.int (4 : Int32))]))
    refine o_iloadN X29 hx (hb hby at_24) (v := (4 : Int32)) rfl (n := 25) rfl ?_
    refine o_icmpN X29 hx (hb hby at_25) (XT.ii_ne_f (by decide)) (n := 28) rfl ?_
    refine o_iconst X29 hx (hb hby at_28) (v := (1 : Int32)) rfl (n := 29) rfl ?_
    refine o_goto X29 hx (hb hby at_29) (by decide) (n := 33) (by decide) ?_
    exact o_nreturn X29 hx hret hlk (t := .boolean) (by simp) (hb hby at_33) (by decide) (by decide) e29 ⟨rfl, N30⟩
  · refine o_iloadN X0 hx (hb hby at_0) (v := p0) rfl (n := 1) rfl ?_
    refine o_bipush X0 hx (hb hby at_1) (v := (7 : Int32)) rfl (n := 3) rfl ?_
    refine o_iand X0 hx (hb hby at_3) (v := (5 : Int32)) q (n := 4) rfl ?_
    refine o_istoreN X0 hx (hb hby at_4) (Ls' := #[.val (.int p0), .val (.int (5 : Int32)), .unset, .unset]) rfl (n := 5) rfl ?_
    refine o_iloadN X0 hx (hb hby at_5) (v := (5 : Int32)) rfl (n := 6) rfl ?_
    refine o_callS X0 hx hZ hown (hw _ (List.mem_of_getElem? (i := 0) rfl)) (hw _ (List.mem_of_getElem? (i := 1) rfl)) (hw _ (List.mem_of_getElem? (i := 2) rfl)) (hw _ (List.mem_of_getElem? (i := 3) rfl)) (by decide) e0 (argsL := [(.int (5 : Int32))]) (rest := []) (c_exp_5 l Z a0 hw s5 h0 pS_STRING) 0 (by decide) (by decide) (by decide) (by decide) (by rw [hml]; rfl) (lenOf o_pd0 rfl) rfl (Nat.le_of_eq rfl) (hb hby at_6) (n := 9) rfl ?_
    intro v31 T31 L31 X31 q31
    obtain ⟨rfl, e31, rfl⟩ := q31
    have N32 := Fr.app N0 (Fr.nil n0)
    show Goes p e below s _ _ _ (T31.setTop (mkF m 9 #[.val (.int p0), .val (.int (5 : Int32)), .unset, .unset] [(.ref s5)]))
    refine o_astoreN X31 hx (hb hby at_9) rfl (Ls' := #[.val (.int p0), .val (.int (5 : Int32)), .val (.ref s5), .unset]) rfl (n := 10) rfl ?_
    refine o_iloadN X31 hx (hb hby at_10) (v := (5 : Int32)) rfl (n := 11) rfl ?_
    refine o_callS X31 hx hZ hown (hw _ (List.mem_of_getElem? (i := 7) rfl)) (hw _ (List.mem_of_getElem? (i := 8) rfl)) (hw _ (List.mem_of_getElem? (i := 5) rfl)) (hw _ (List.mem_of_getElem? (i := 9) rfl)) (by decide) e31 (argsL := [(.int (5 : Int32))]) (rest := []) (c_for_5 l Z a0 hw b kb s0 s1 s2 s3 s4 s5 s6 s7 h0 pS_BY_CODE pV_b) 0 (by decide) (by decide) (by decide) (by decide) (by rw [hml]; rfl) (lenOf o_pd0 rfl) rfl (Nat.le_of_eq rfl) (hb hby at_11) (n := 14) rfl ?_
    intro v33 T33 L33 X33 q33
    obtain ⟨rfl, e33, rfl⟩ := q33
    have N34 := Fr.app N32 (Fr.nil n0)
    show Goes p e below s _ _ _ (T33.setTop (mkF m 14 #[.val (.int p0), .val (.int (5 : Int32)), .val (.ref s5), .unset] [(.ref s5)]))
    refine o_astoreN X33 hx (hb hby at_14) rfl (Ls' := #[.val (.int p0), .val (.int (5 : Int32)), .val (.ref s5), .val (.ref s5)]) rfl (n := 15) rfl ?_
    refine o_aloadN X33 hx (hb hby at_15) (v := (.ref s5)) rfl rfl (n := 16) rfl ?_
    refine o_aloadN X33 hx (hb hby at_16) (v := (.ref s5)) rfl rfl (n := 17) rfl ?_
    refine o_acmp X33 hx (hb hby at_17) rfl rfl (same := true) (decide_eq_true rfl) (by decide) (n := 20) (by decide) ?_
    refine o_aloadN X33 hx (hb hby at_20) (v := (.ref s5)) rfl rfl (n := 21) rfl ?_
    refine o_callV X33 hx hZ hown (hw _ (List.mem_of_getElem? (i := 12) rfl)) (hw _ (List.mem_of_getElem? (i := 13) rfl)) (hw _ (List.mem_of_getElem? (i := 15) rfl)) (hw _ (List.mem_of_getElem? (i := 14) rfl)) (hw _ (List.mem_of_getElem? (i := 5) rfl)) (hw _ (List.mem_of_getElem? (i := 16) rfl)) (by decide) e33 pE_s5 (argsL := []) (rest := []) (c_code l Z a0 hw s5 (5 : Int32) h0 pF_s5_code) 0 (by decide) (by decide) (by decide) (by decide) (by rw [hml]; rfl) (lenOf o_pd1 rfl) rfl (Nat.le_of_eq rfl) (hb hby at_21) (n := 24) rfl ?_
    intro v35 T35 L35 X35 q35
    obtain ⟨rfl, e35, rfl⟩ := q35
    have N36 := Fr.app N34 (Fr.nil n0)
    show Goes p e below s _ _ _ (T35.setTop (mkF m 24 #[.val (.int p0), .val (.int (5 : Int32)), .val (.ref s5), .val (.ref s5)] [(.int (5 : Int32))]))
    refine o_iloadN X35 hx (hb hby at_24) (v := (5 : Int32)) rfl (n := 25) rfl ?_
    refine o_icmpN X35 hx (hb hby at_25) (XT.ii_ne_f (by decide)) (n := 28) rfl ?_
    refine o_iconst X35 hx (hb hby at_28) (v := (1 : Int32)) rfl (n := 29) rfl ?_
    refine o_goto X35 hx (hb hby at_29) (by decide) (n := 33) (by decide) ?_
    exact o_nreturn X35 hx hret hlk (t := .boolean) (by simp) (hb hby at_33) (by decide) (by decide) e35 ⟨rfl, N36⟩
  · refine o_iloadN X0 hx (hb hby at_0) (v := p0) rfl (n := 1) rfl ?_
    refine o_bipush X0 hx (hb hby at_1) (v := (7 : Int32)) rfl (n := 3) rfl ?_
    refine o_iand X0 hx (hb hby at_3) (v := (6 : Int32)) q (n := 4) rfl ?_
    refine o_istoreN X0 hx (hb hby at_4) (Ls' := #[.val (.int p0), .val (.int (6 : Int32)), .unset, .unset]) rfl (n := 5) rfl ?_
    refine o_iloadN X0 hx (hb hby at_5) (v := (6 : Int32)) rfl (n := 6) rfl ?_
    refine o_callS X0 hx hZ hown (hw _ (List.mem_of_getElem? (i := 0) rfl)) (hw _ (List.mem_of_getElem? (i := 1) rfl)) (hw _ (List.mem_of_getElem? (i := 2) rfl)) (hw _ (List.mem_of_getElem? (i := 3) rfl)) (by decide) e0 (argsL := [(.int (6 : Int32))]) (rest := []) (c_exp_6 l Z a0 hw s6 h0 pS_BYTES) 0 (by decide) (by decide) (by decide) (by decide) (by rw [hml]; rfl) (lenOf o_pd0 rfl) rfl (Nat.le_of_eq rfl) (hb hby at_6) (n := 9) rfl ?_
    intro v37 T37 L37 X37 q37
    obtain ⟨rfl, e37, rfl⟩ := q37
    have N38 := Fr.app N0 (Fr.nil n0)
    show Goes p e below s _ _ _ (T37.setTop (mkF m 9 #[.val (.int p0), .val (.int (6 : Int32)), .unset, .unset] [(.ref s6)]))
    refine o_astoreN X37 hx (hb hby at_9) rfl (Ls' := #[.val (.int p0), .val (.int (6 : Int32)), .val (.ref s6), .unset]) rfl (n := 10) rfl ?_
    refine o_iloadN X37 hx (hb hby at_10) (v := (6 : Int32)) rfl (n := 11) rfl ?_
    refine o_callS X37 hx hZ hown (hw _ (List.mem_of_getElem? (i := 7) rfl)) (hw _ (List.mem_of_getElem? (i := 8) rfl)) (hw _ (List.mem_of_getElem? (i := 5) rfl)) (hw _ (List.mem_of_getElem? (i := 9) rfl)) (by decide) e37 (argsL := [(.int (6 : Int32))]) (rest := []) (c_for_6 l Z a0 hw b kb s0 s1 s2 s3 s4 s5 s6 s7 h0 pS_BY_CODE pV_b) 0 (by decide) (by decide) (by decide) (by decide) (by rw [hml]; rfl) (lenOf o_pd0 rfl) rfl (Nat.le_of_eq rfl) (hb hby at_11) (n := 14) rfl ?_
    intro v39 T39 L39 X39 q39
    obtain ⟨rfl, e39, rfl⟩ := q39
    have N40 := Fr.app N38 (Fr.nil n0)
    show Goes p e below s _ _ _ (T39.setTop (mkF m 14 #[.val (.int p0), .val (.int (6 : Int32)), .val (.ref s6), .unset] [(.ref s6)]))
    refine o_astoreN X39 hx (hb hby at_14) rfl (Ls' := #[.val (.int p0), .val (.int (6 : Int32)), .val (.ref s6), .val (.ref s6)]) rfl (n := 15) rfl ?_
    refine o_aloadN X39 hx (hb hby at_15) (v := (.ref s6)) rfl rfl (n := 16) rfl ?_
    refine o_aloadN X39 hx (hb hby at_16) (v := (.ref s6)) rfl rfl (n := 17) rfl ?_
    refine o_acmp X39 hx (hb hby at_17) rfl rfl (same := true) (decide_eq_true rfl) (by decide) (n := 20) (by decide) ?_
    refine o_aloadN X39 hx (hb hby at_20) (v := (.ref s6)) rfl rfl (n := 21) rfl ?_
    refine o_callV X39 hx hZ hown (hw _ (List.mem_of_getElem? (i := 12) rfl)) (hw _ (List.mem_of_getElem? (i := 13) rfl)) (hw _ (List.mem_of_getElem? (i := 15) rfl)) (hw _ (List.mem_of_getElem? (i := 14) rfl)) (hw _ (List.mem_of_getElem? (i := 5) rfl)) (hw _ (List.mem_of_getElem? (i := 16) rfl)) (by decide) e39 pE_s6 (argsL := []) (rest := []) (c_code l Z a0 hw s6 (6 : Int32) h0 pF_s6_code) 0 (by decide) (by decide) (by decide) (by decide) (by rw [hml]; rfl) (lenOf o_pd1 rfl) rfl (Nat.le_of_eq rfl) (hb hby at_21) (n := 24) rfl ?_
    intro v41 T41 L41 X41 q41
    obtain ⟨rfl, e41, rfl⟩ := q41
    have N42 := Fr.app N40 (Fr.nil n0)
    show Goes p e below s _ _ _ (T41.setTop (mkF m 24 #[.val (.int p0), .val (.int (6 : Int32)), .val (.ref s6), .val (.ref s6)] [(.int (6 : Int32))]))
    refine o_iloadN X41 hx (hb hby at_24) (v := (6 : Int32)) rfl (n := 25) rfl ?_
    refine o_icmpN X41 hx (hb hby at_25) (XT.ii_ne_f (by decide)) (n := 28) rfl ?_
    refine o_iconst X41 hx (hb hby at_28) (v := (1 : Int32)) rfl (n := 29) rfl ?_
    refine o_goto X41 hx (hb hby at_29) (by decide) (n := 33) (by decide) ?_
    exact o_nreturn X41 hx hret hlk (t := .boolean) (by simp) (hb hby at_33) (by decide) (by decide) e41 ⟨rfl, N42⟩
  · refine o_iloadN X0 hx (hb hby at_0) (v := p0) rfl (n := 1) rfl ?_
    refine o_bipush X0 hx (hb hby at_1) (v := (7 : Int32)) rfl (n := 3) rfl ?_
    refine o_iand X0 hx (hb hby at_3) (v := (7 : Int32)) q (n := 4) rfl ?_
    refine o_istoreN X0 hx (hb hby at_4) (Ls' := #[.val (.int p0), .val (.int (7 : Int32)), .unset, .unset]) rfl (n := 5) rfl ?_
    refine o_iloadN X0 hx (hb hby at_5) (v := (7 : Int32)) rfl (n := 6) rfl ?_
    refine o_callS X0 hx hZ hown (hw _ (List.mem_of_getElem? (i := 0) rfl)) (hw _ (List.mem_of_getElem? (i := 1) rfl)) (hw _ (List.mem_of_getElem? (i := 2) rfl)) (hw _ (List.mem_of_getElem? (i := 3) rfl)) (by decide) e0 (argsL := [(.int (7 : Int32))]) (rest := []) (c_exp_7 l Z a0 hw s7 h0 pS_REFERENCE) 0 (by decide) (by decide) (by decide) (by decide) (by rw [hml]; rfl) (lenOf o_pd0 rfl) rfl (Nat.le_of_eq rfl) (hb hby at_6) (n := 9) rfl ?_
    intro v43 T43 L43 X43 q43
    obtain ⟨rfl, e43, rfl⟩ := q43
    have N44 := Fr.app N0 (Fr.nil n0)
    show Goes p e below s _ _ _ (T43.setTop (mkF m 9 #[.val (.int p0), .val (.int (7 : Int32)), .unset, .unset] [(.ref s7)]))
    refine o_astoreN X43 hx (hb hby at_9) rfl (Ls' := #[.val (.int p0), .val (.int (7 : Int32)), .val (.ref s7), .unset]) rfl (n := 10) rfl ?_
    refine o_iloadN X43 hx (hb hby at_10) (v := (7 : Int32)) rfl (n := 11) rfl ?_
    refine o_callS X43 hx hZ hown (hw _ (List.mem_of_getElem? (i := 7) rfl)) (hw _ (List.mem_of_getElem? (i := 8) rfl)) (hw _ (List.mem_of_getElem? (i := 5) rfl)) (hw _ (List.mem_of_getElem? (i := 9) rfl)) (by decide) e43 (argsL := [(.int (7 : Int32))]) (rest := []) (c_for_7 l Z a0 hw b kb s0 s1 s2 s3 s4 s5 s6 s7 h0 pS_BY_CODE pV_b) 0 (by decide) (by decide) (by decide) (by decide) (by rw [hml]; rfl) (lenOf o_pd0 rfl) rfl (Nat.le_of_eq rfl) (hb hby at_11) (n := 14) rfl ?_
    intro v45 T45 L45 X45 q45
    obtain ⟨rfl, e45, rfl⟩ := q45
    have N46 := Fr.app N44 (Fr.nil n0)
    show Goes p e below s _ _ _ (T45.setTop (mkF m 14 #[.val (.int p0), .val (.int (7 : Int32)), .val (.ref s7), .unset] [(.ref s7)]))
    refine o_astoreN X45 hx (hb hby at_14) rfl (Ls' := #[.val (.int p0), .val (.int (7 : Int32)), .val (.ref s7), .val (.ref s7)]) rfl (n := 15) rfl ?_
    refine o_aloadN X45 hx (hb hby at_15) (v := (.ref s7)) rfl rfl (n := 16) rfl ?_
    refine o_aloadN X45 hx (hb hby at_16) (v := (.ref s7)) rfl rfl (n := 17) rfl ?_
    refine o_acmp X45 hx (hb hby at_17) rfl rfl (same := true) (decide_eq_true rfl) (by decide) (n := 20) (by decide) ?_
    refine o_aloadN X45 hx (hb hby at_20) (v := (.ref s7)) rfl rfl (n := 21) rfl ?_
    refine o_callV X45 hx hZ hown (hw _ (List.mem_of_getElem? (i := 12) rfl)) (hw _ (List.mem_of_getElem? (i := 13) rfl)) (hw _ (List.mem_of_getElem? (i := 15) rfl)) (hw _ (List.mem_of_getElem? (i := 14) rfl)) (hw _ (List.mem_of_getElem? (i := 5) rfl)) (hw _ (List.mem_of_getElem? (i := 16) rfl)) (by decide) e45 pE_s7 (argsL := []) (rest := []) (c_code l Z a0 hw s7 (7 : Int32) h0 pF_s7_code) 0 (by decide) (by decide) (by decide) (by decide) (by rw [hml]; rfl) (lenOf o_pd1 rfl) rfl (Nat.le_of_eq rfl) (hb hby at_21) (n := 24) rfl ?_
    intro v47 T47 L47 X47 q47
    obtain ⟨rfl, e47, rfl⟩ := q47
    have N48 := Fr.app N46 (Fr.nil n0)
    show Goes p e below s _ _ _ (T47.setTop (mkF m 24 #[.val (.int p0), .val (.int (7 : Int32)), .val (.ref s7), .val (.ref s7)] [(.int (7 : Int32))]))
    refine o_iloadN X47 hx (hb hby at_24) (v := (7 : Int32)) rfl (n := 25) rfl ?_
    refine o_icmpN X47 hx (hb hby at_25) (XT.ii_ne_f (by decide)) (n := 28) rfl ?_
    refine o_iconst X47 hx (hb hby at_28) (v := (1 : Int32)) rfl (n := 29) rfl ?_
    refine o_goto X47 hx (hb hby at_29) (by decide) (n := 33) (by decide) ?_
    exact o_nreturn X47 hx hret hlk (t := .boolean) (by simp) (hb hby at_33) (by decide) (by decide) e47 ⟨rfl, N48⟩
set_option maxRecDepth 65536 in
set_option maxHeartbeats 40000000 in
theorem comes_1 {Post : Tables → Env → Array Value → State → Outcome → State → Prop} (hpost : ∀ tb e args s v u, (limb_1_1.after args s (.returned v) u = true ∧ limb_1_2.after args s (.returned v) u = true ∧ True) → FrameEnd s (.returned v) u (Jvm.fieldLocs frame_1_writes args s ++ Jvm.arrayLocs frame_1_arrays args s ++ Jvm.staticLocs frame_1_statics s) 0 0 → Post tb e args s (.returned v) u) :
    ArmFor flags0 classFile x code maxLocals ret World_1 tables_1 room_1 Calls_1 rest_1 Pre_1 Post := by
  intro l hfl _ _ p e ha hc hk s m args below hf hA hF happ hP
  obtain ⟨hcalls, hrest, hpre⟩ := hP
  obtain ⟨-, -, -, hnamed, -, -, -, hat⟩ := (Spec.applies_iff hf).mp happ
  obtain ⟨hg, hn⟩ := and_e (Cond.before_iff.mp (show (Jvm.Cond.and given_1 narrow_1).before args s = true from hpre))
  obtain ⟨gv1, gv2⟩ := and_e hg
  obtain ⟨w0, rfl⟩ : ∃ w0 : Value, args = #[w0] := by
    have hs : args.size = 1 := by simpa [Cond.value, given_1] using gv1
    obtain ⟨L⟩ := args
    match L, hs with
    | [w0], _ => exact ⟨w0, rfl⟩
  have hw := fun d (hd : d ∈ tables_1) => atoms_spec (ws := Jvm.Cond.code x code maxLocals ret :: tables_1) hat d (List.mem_cons_of_mem _ hd)
  have hfit : Fit s := fun {y c} hc i hi => by
    obtain ⟨ha, rfl⟩ := Array.getElem?_eq_some_iff.mp hc
    have q := List.all_eq_true.mp ((Array.all_eq_true_iff_forall_mem.mp hF) _ (Array.getElem_mem ha)) i (List.mem_range.mpr hi)
    simpa [Array.getElem?_eq_getElem hi] using q
  obtain ⟨i0, ei0⟩ := is_v gv2
  obtain rfl : w0 = (.int i0) := Option.some.inj ei0
  obtain ⟨na0, nb0⟩ := and_e hn
  obtain ⟨na1, nb1⟩ := and_e nb0
  obtain ⟨na2, nb2⟩ := and_e nb1
  obtain ⟨na3, nb3⟩ := and_e nb2
  obtain ⟨na4, nb4⟩ := and_e nb3
  obtain ⟨na5, nb5⟩ := and_e nb4
  obtain ⟨na6, nb6⟩ := and_e nb5
  obtain ⟨na7, nb7⟩ := and_e nb6
  obtain ⟨na8, nb8⟩ := and_e nb7
  obtain ⟨na9, nb9⟩ := and_e nb8
  obtain ⟨na10, nb10⟩ := and_e nb9
  obtain ⟨na11, nb11⟩ := and_e nb10
  obtain ⟨na12, nb12⟩ := and_e nb11
  obtain ⟨na13, nb13⟩ := and_e nb12
  obtain ⟨na14, nb14⟩ := and_e nb13
  obtain ⟨na15, nb15⟩ := and_e nb14
  obtain ⟨na16, nb16⟩ := and_e nb15
  obtain ⟨na17, nb17⟩ := and_e nb16
  obtain ⟨na18, nb18⟩ := and_e nb17
  obtain ⟨na19, nb19⟩ := and_e nb18
  obtain ⟨na20, nb20⟩ := and_e nb19
  obtain ⟨na21, nb21⟩ := and_e nb20
  obtain ⟨na22, nb22⟩ := and_e nb21
  obtain ⟨na23, nb23⟩ := and_e nb22
  obtain ⟨na24, nb24⟩ := and_e nb23
  obtain ⟨s0, hs0⟩ := exa_v na0
  have hE0 := Exa.start hs0 na0
  have hS0 := Sta.start hs0 (Or.inr ⟨(hw _ (List.mem_of_getElem? (i := 5) rfl)), (hw _ (List.mem_of_getElem? (i := 6) rfl))⟩)
  obtain ⟨b, hb⟩ := arr_v na1
  obtain ⟨cl, hA⟩ := Arr.start hb na1
  have hSb := Sta.start hb (Or.inr ⟨(hw _ (List.mem_of_getElem? (i := 5) rfl)), (hw _ (List.mem_of_getElem? (i := 11) rfl))⟩)
  obtain ⟨s3, hs3⟩ := exa_v na5
  have hE3 := Exa.start hs3 na5
  have hS3 := Sta.start hs3 (Or.inr ⟨(hw _ (List.mem_of_getElem? (i := 5) rfl)), (hw _ (List.mem_of_getElem? (i := 20) rfl))⟩)
  obtain ⟨s6, hs6⟩ := exa_v na8
  have hE6 := Exa.start hs6 na8
  have hS6 := Sta.start hs6 (Or.inr ⟨(hw _ (List.mem_of_getElem? (i := 5) rfl)), (hw _ (List.mem_of_getElem? (i := 22) rfl))⟩)
  obtain ⟨s7, hs7⟩ := exa_v na11
  have hE7 := Exa.start hs7 na11
  have hS7 := Sta.start hs7 (Or.inr ⟨(hw _ (List.mem_of_getElem? (i := 5) rfl)), (hw _ (List.mem_of_getElem? (i := 24) rfl))⟩)
  obtain ⟨s2, hs2⟩ := exa_v na14
  have hE2 := Exa.start hs2 na14
  have hS2 := Sta.start hs2 (Or.inr ⟨(hw _ (List.mem_of_getElem? (i := 5) rfl)), (hw _ (List.mem_of_getElem? (i := 26) rfl))⟩)
  obtain ⟨s1, hs1⟩ := exa_v na17
  have hE1 := Exa.start hs1 na17
  have hS1 := Sta.start hs1 (Or.inr ⟨(hw _ (List.mem_of_getElem? (i := 5) rfl)), (hw _ (List.mem_of_getElem? (i := 28) rfl))⟩)
  obtain ⟨s4, hs4⟩ := exa_v na20
  have hE4 := Exa.start hs4 na20
  have hS4 := Sta.start hs4 (Or.inr ⟨(hw _ (List.mem_of_getElem? (i := 5) rfl)), (hw _ (List.mem_of_getElem? (i := 30) rfl))⟩)
  obtain ⟨s5, hs5⟩ := exa_v na23
  have hE5 := Exa.start hs5 na23
  have hS5 := Sta.start hs5 (Or.inr ⟨(hw _ (List.mem_of_getElem? (i := 5) rfl)), (hw _ (List.mem_of_getElem? (i := 32) rfl))⟩)
  obtain ⟨hlt, hsz⟩ := o_len hb hA na2
  have he0 := o_elem hb hA hs0 na3
  have hF0 := o_fld hs0 na4
  have he3 := o_elem hb hA hs3 na6
  have hF3 := o_fld hs3 na7
  have he6 := o_elem hb hA hs6 na9
  have hF6 := o_fld hs6 na10
  have he7 := o_elem hb hA hs7 na12
  have hF7 := o_fld hs7 na13
  have he2 := o_elem hb hA hs2 na15
  have hF2 := o_fld hs2 na16
  have he1 := o_elem hb hA hs1 na18
  have hF1 := o_fld hs1 na19
  have he4 := o_elem hb hA hs4 na21
  have hF4 := o_fld hs4 na22
  have he5 := o_elem hb hA hs5 na24
  have hF5 := o_fld hs5 nb24
  have hV : Arv s s.heap b cl.cls (.object "com/example/codicil/codicil/FieldKind") 8 [(.ref s0), (.ref s1), (.ref s2), (.ref s3), (.ref s4), (.ref s5), (.ref s6), (.ref s7)] .null := Arv.start hfit hA hlt hsz (by decide) rfl ⟨he0, he1, he2, he3, he4, he5, he6, he7, trivial⟩
  obtain ⟨n, o, h1, h2, h3, _, L, rfl, ⟨rfl, N⟩, hq⟩ := o_law l s _ hw i0 s.heap s.heap.size (Nat.le_refl _) b cl.cls s0 s1 s2 s3 s4 s5 s6 s7 hSb hV hS0 hE0 hF0 hS1 hE1 hF1 hS2 hE2 hF2 hS3 hE3 hF3 hS4 hE4 hF4 hS5 hE5 hF5 hS6 hE6 hF6 hS7 hE7 hF7 p e ha hc hk s m _ below hf ((Spec.applies_iff_loose hf).mp happ).1 ⟨rfl, State.Warmed39.refl s, rfl⟩ trivial
  refine ⟨n, _, h1, h2, h3, hpost _ _ _ _ _ _ ⟨Cond.after_iff.mpr rfl, Cond.after_iff.mpr (eq_i res_at (Term.int_eval (1)) rfl), trivial⟩ ⟨hq.1, hq.2.1, (hq.2.2.sift fun y hy => Or.inr (N y hy)).mono (by decide) (by decide)⟩⟩
theorem main_1_1 : Claimed_1_1 := comes_1 fun _ _ _ _ _ _ h hF => ⟨h.1, hF⟩
theorem main_1_2 : Claimed_1_2 := comes_1 fun _ _ _ _ _ _ h hF => ⟨h.2.1, hF⟩
end Jvm.Pilot.@@N@@
namespace Jvm.Pilot.@@N@@
open Jvm Jvm.ClassFile Sem Op Lib Jvm.Free Jvm.Stand Jvm.Pilot.@@N@@.Jvm.D
/-! MADE BY PROGRAM (witnessworld.py) out of the Statement's table words and the real class files: 13 classes; the members and pool entries that the words name. The judged class is class 1, her method 2. -/
namespace start1
open Jvm.ClassFile
def u (s : String) : CpInfo := .utf8 (stringToUtf16 s)
/-- a pool by its gaps: so many unusable entries, then the entry; so many at the end -/
def gap : Nat → List CpInfo → List CpInfo
  | 0, r => r
  | n + 1, r => .unusable :: gap n r
def poolList (es : List (Nat × CpInfo)) (last : Nat) : List CpInfo := es.foldr (fun e r => gap e.1 (e.2 :: r)) (gap last [])
def pool (es : List (Nat × CpInfo)) (last : Nat) : Array CpInfo := ⟨poolList es last⟩
def fileOf (pool : Array CpInfo) (this : Nat) (attrs : Array Attribute := #[]) (ms : Array MethodInfo := #[]) (fl : Nat := 33) (sup : Nat := 0) (ifs : Array Nat := #[]) (fds : Array FieldInfo := #[]) : ClassFile where
  minorVersion := 0
  majorVersion := 65
  constantPool := pool
  accessFlags := fl
  thisClass := this
  superClass := sup
  interfaces := ifs
  fields := fds
  methods := ms
  attributes := attrs
def plain (name : String) (sup : Option ClassId) : Class where
  name := name
  kind := .ordinary
  loader := none
  accessFlags := 33
  super := sup
  interfaces := #[]
  cf := none
  fields := #[]
  methods := #[]
  instanceTypes := #[]
  staticTypes := #[]
  resolved := #[]
  callSites := []
  init := .initialized
  statics := none
  mirror := none

def pool0 : Array CpInfo := pool [(5, u "<init>"), (0, u "()V"), (1, .class_ 10), (1, u "java/lang/Object")] 113

def k0m0 : Method := { name := "<init>", desc := "()V", sig := { parameters := [], returnType := none }, accessFlags := 1, code := none }
/-- java/lang/Object -/
def k0 : Class := { plain "java/lang/Object" none with
  accessFlags := 33
  interfaces := #[]
  cf := some (fileOf pool0 8 #[] #[{ accessFlags := 1, nameIndex := 5, descriptorIndex := 6, attributes := #[] }] 33 0 #[] #[])
  fields := #[]
  methods := #[k0m0]
  instanceTypes := #[]
  staticTypes := #[]
  resolved := Array.replicate 124 none
  statics := none }

def pool1 : Array CpInfo := pool [(2, .class_ 4), (1, u "java/lang/Object"), (0, u "<init>"), (0, u "()V"), (0, .fieldref 8 9), (0, .class_ 10), (0, .nameAndType 11 12), (0, u "com/example/codicil/codicil/FieldKind"), (0, u "INT"), (0, u "Lcom/example/codicil/codicil/FieldKind;"), (0, .fieldref 8 14), (0, .nameAndType 15 12), (0, u "LONG"), (0, .fieldref 8 17), (0, .nameAndType 18 12), (0, u "BOOLEAN"), (0, .fieldref 8 20), (0, .nameAndType 21 12), (0, u "FLOAT"), (0, .fieldref 8 23), (0, .nameAndType 24 12), (0, u "DOUBLE"), (0, .fieldref 8 26), (0, .nameAndType 27 12), (0, u "STRING"), (0, .fieldref 8 29), (0, .nameAndType 30 12), (0, u "BYTES"), (0, .fieldref 8 32), (0, .nameAndType 33 12), (0, u "REFERENCE"), (0, .methodref 35 36), (0, .class_ 37), (0, .nameAndType 38 39), (0, u "com/example/codicil/codicil/FieldKindForCodePinLaw"), (0, u "expected"), (0, u "(I)Lcom/example/codicil/codicil/FieldKind;"), (0, .methodref 8 41), (0, .nameAndType 42 39), (0, u "forCode"), (0, .methodref 8 44), (0, .nameAndType 45 46), (0, u "code"), (0, u "()I"), (3, u "law"), (0, u "(I)Z")] 2

def k1m0 : Method := { name := "<init>", desc := "()V", sig := { parameters := [], returnType := none }, accessFlags := 2, code := none }
def k1c1 : Code := { maxStack := 2, maxLocals := 1, code := method_2_code, exceptionTable := #[], attributes := #[] }
def k1m1 : Method := { name := "expected", desc := "(I)Lcom/example/codicil/codicil/FieldKind;", sig := { parameters := [.int], returnType := some (.object "com/example/codicil/codicil/FieldKind") }, accessFlags := 10, code := some k1c1 }
def k1c2 : Code := { maxStack := 2, maxLocals := 4, code := code, exceptionTable := #[], attributes := #[] }
def k1m2 : Method := { name := "law", desc := "(I)Z", sig := { parameters := [.int], returnType := some .boolean }, accessFlags := 9, code := some k1c2 }
/-- com/example/codicil/codicil/FieldKindForCodePinLaw -/
def k1 : Class := { plain "com/example/codicil/codicil/FieldKindForCodePinLaw" (some 0) with
  accessFlags := 49
  interfaces := #[]
  cf := some (fileOf pool1 35 #[] #[{ accessFlags := 2, nameIndex := 5, descriptorIndex := 6, attributes := #[] }, { accessFlags := 10, nameIndex := 38, descriptorIndex := 39, attributes := #[] }, { accessFlags := 9, nameIndex := 50, descriptorIndex := 51, attributes := #[] }] 49 2 #[] #[])
  fields := #[]
  methods := #[k1m0, k1m1, k1m2]
  instanceTypes := #[]
  staticTypes := #[]
  resolved := Array.replicate 54 none
  statics := none }

def pool2 : Array CpInfo := pool [(1, .class_ 2), (0, u "java/lang/constant/Constable"), (0, .class_ 4), (0, u "java/lang/Object")] 6

/-- java/lang/constant/Constable -/
def k2 : Class := { plain "java/lang/constant/Constable" (some 0) with
  accessFlags := 1537
  interfaces := #[]
  cf := some (fileOf pool2 1 #[] #[] 1537 3 #[] #[])
  fields := #[]
  methods := #[]
  instanceTypes := #[]
  staticTypes := #[]
  resolved := Array.replicate 11 none
  statics := none }

def pool3 : Array CpInfo := pool [(1, .class_ 2), (0, u "java/lang/Comparable"), (0, .class_ 4), (0, u "java/lang/Object")] 7

/-- java/lang/Comparable -/
def k3 : Class := { plain "java/lang/Comparable" (some 0) with
  accessFlags := 1537
  interfaces := #[]
  cf := some (fileOf pool3 1 #[] #[] 1537 3 #[] #[])
  fields := #[]
  methods := #[]
  instanceTypes := #[]
  staticTypes := #[]
  resolved := Array.replicate 12 none
  statics := none }

def pool4 : Array CpInfo := pool [(1, .class_ 2), (0, u "java/io/Serializable"), (0, .class_ 4), (0, u "java/lang/Object")] 2

/-- java/io/Serializable -/
def k4 : Class := { plain "java/io/Serializable" (some 0) with
  accessFlags := 1537
  interfaces := #[]
  cf := some (fileOf pool4 1 #[] #[] 1537 3 #[] #[])
  fields := #[]
  methods := #[]
  instanceTypes := #[]
  staticTypes := #[]
  resolved := Array.replicate 7 none
  statics := none }

def pool5 : Array CpInfo := pool [(2, .class_ 4), (1, u "java/lang/Enum"), (0, u "name"), (0, u "Ljava/lang/String;"), (2, u "ordinal"), (0, u "I"), (1, .class_ 14), (1, u "java/lang/Object"), (4, u "hash"), (86, .class_ 108), (1, u "java/lang/Enum$EnumDesc"), (2, .class_ 112), (0, u "java/lang/constant/Constable"), (0, .class_ 114), (0, u "java/lang/Comparable"), (0, .class_ 116), (0, u "java/io/Serializable")] 87

/-- java/lang/Enum -/
def k5 : Class := { plain "java/lang/Enum" (some 0) with
  accessFlags := 1057
  interfaces := #[2, 3, 4]
  cf := some (fileOf pool5 2 #[.nestMembers #[106]] #[] 1057 12 #[111, 113, 115] #[{ accessFlags := 18, nameIndex := 5, descriptorIndex := 6, attributes := #[] }, { accessFlags := 18, nameIndex := 9, descriptorIndex := 10, attributes := #[] }, { accessFlags := 2, nameIndex := 19, descriptorIndex := 10, attributes := #[] }])
  fields := #[{ name := "name", type := (.object "java/lang/String"), accessFlags := 18, slot := 0, constantValue := 0 }, { name := "ordinal", type := .int, accessFlags := 18, slot := 1, constantValue := 0 }, { name := "hash", type := .int, accessFlags := 2, slot := 2, constantValue := 0 }]
  methods := #[]
  instanceTypes := #[(.object "java/lang/String"), .int, .int]
  staticTypes := #[]
  resolved := Array.replicate 204 none
  statics := none }

def pool6 : Array CpInfo := pool [(1, .class_ 2), (0, u "com/example/codicil/codicil/FieldKind"), (2, u "INT"), (0, u "Lcom/example/codicil/codicil/FieldKind;"), (2, u "LONG"), (2, u "BOOLEAN"), (2, u "FLOAT"), (2, u "DOUBLE"), (2, u "STRING"), (2, u "BYTES"), (2, u "REFERENCE"), (2, u "$VALUES"), (0, u "[Lcom/example/codicil/codicil/FieldKind;"), (6, .class_ 40), (1, u "java/lang/Enum"), (6, .fieldref 1 48), (0, .nameAndType 49 50), (0, u "code"), (0, u "I"), (0, .fieldref 1 52), (0, .nameAndType 53 31), (0, u "BY_CODE"), (59, u "()I"), (0, u "forCode"), (0, u "(I)Lcom/example/codicil/codicil/FieldKind;")] 24

def k6c0 : Code := { maxStack := 1, maxLocals := 1, code := prog_8_method_4_code, exceptionTable := #[], attributes := #[] }
def k6m0 : Method := { name := "code", desc := "()I", sig := { parameters := [], returnType := some .int }, accessFlags := 1, code := some k6c0 }
def k6c1 : Code := { maxStack := 3, maxLocals := 1, code := prog_8_method_5_code, exceptionTable := #[], attributes := #[] }
def k6m1 : Method := { name := "forCode", desc := "(I)Lcom/example/codicil/codicil/FieldKind;", sig := { parameters := [.int], returnType := some (.object "com/example/codicil/codicil/FieldKind") }, accessFlags := 9, code := some k6c1 }
/-- com/example/codicil/codicil/FieldKind -/
def k6 : Class := { plain "com/example/codicil/codicil/FieldKind" (some 5) with
  accessFlags := 16433
  interfaces := #[]
  cf := some (fileOf pool6 1 #[] #[{ accessFlags := 1, nameIndex := 49, descriptorIndex := 113, attributes := #[] }, { accessFlags := 9, nameIndex := 114, descriptorIndex := 115, attributes := #[] }] 16433 38 #[] #[{ accessFlags := 16409, nameIndex := 5, descriptorIndex := 6, attributes := #[] }, { accessFlags := 16409, nameIndex := 9, descriptorIndex := 6, attributes := #[] }, { accessFlags := 16409, nameIndex := 12, descriptorIndex := 6, attributes := #[] }, { accessFlags := 16409, nameIndex := 15, descriptorIndex := 6, attributes := #[] }, { accessFlags := 16409, nameIndex := 18, descriptorIndex := 6, attributes := #[] }, { accessFlags := 16409, nameIndex := 21, descriptorIndex := 6, attributes := #[] }, { accessFlags := 16409, nameIndex := 24, descriptorIndex := 6, attributes := #[] }, { accessFlags := 16409, nameIndex := 27, descriptorIndex := 6, attributes := #[] }, { accessFlags := 26, nameIndex := 53, descriptorIndex := 31, attributes := #[] }, { accessFlags := 18, nameIndex := 49, descriptorIndex := 50, attributes := #[] }, { accessFlags := 4122, nameIndex := 30, descriptorIndex := 31, attributes := #[] }])
  fields := #[{ name := "INT", type := (.object "com/example/codicil/codicil/FieldKind"), accessFlags := 16409, slot := 0, constantValue := 0 }, { name := "LONG", type := (.object "com/example/codicil/codicil/FieldKind"), accessFlags := 16409, slot := 1, constantValue := 0 }, { name := "BOOLEAN", type := (.object "com/example/codicil/codicil/FieldKind"), accessFlags := 16409, slot := 2, constantValue := 0 }, { name := "FLOAT", type := (.object "com/example/codicil/codicil/FieldKind"), accessFlags := 16409, slot := 3, constantValue := 0 }, { name := "DOUBLE", type := (.object "com/example/codicil/codicil/FieldKind"), accessFlags := 16409, slot := 4, constantValue := 0 }, { name := "STRING", type := (.object "com/example/codicil/codicil/FieldKind"), accessFlags := 16409, slot := 5, constantValue := 0 }, { name := "BYTES", type := (.object "com/example/codicil/codicil/FieldKind"), accessFlags := 16409, slot := 6, constantValue := 0 }, { name := "REFERENCE", type := (.object "com/example/codicil/codicil/FieldKind"), accessFlags := 16409, slot := 7, constantValue := 0 }, { name := "BY_CODE", type := (.array (.object "com/example/codicil/codicil/FieldKind")), accessFlags := 26, slot := 8, constantValue := 0 }, { name := "code", type := .int, accessFlags := 18, slot := 3, constantValue := 0 }, { name := "$VALUES", type := (.array (.object "com/example/codicil/codicil/FieldKind")), accessFlags := 4122, slot := 9, constantValue := 0 }]
  methods := #[k6m0, k6m1]
  instanceTypes := #[(.object "java/lang/String"), .int, .int, .int]
  staticTypes := #[(.object "com/example/codicil/codicil/FieldKind"), (.object "com/example/codicil/codicil/FieldKind"), (.object "com/example/codicil/codicil/FieldKind"), (.object "com/example/codicil/codicil/FieldKind"), (.object "com/example/codicil/codicil/FieldKind"), (.object "com/example/codicil/codicil/FieldKind"), (.object "com/example/codicil/codicil/FieldKind"), (.object "com/example/codicil/codicil/FieldKind"), (.array (.object "com/example/codicil/codicil/FieldKind")), (.array (.object "com/example/codicil/codicil/FieldKind"))]
  resolved := Array.replicate 140 none
  statics := some 0 }

def pool7 : Array CpInfo := pool [(1, u "java/lang/Cloneable"), (0, .class_ 1), (0, u "java/lang/Object"), (0, .class_ 3)] 3

/-- java/lang/Cloneable -/
def k7 : Class := { plain "java/lang/Cloneable" (some 0) with
  accessFlags := 1537
  interfaces := #[]
  cf := some (fileOf pool7 2 #[] #[] 1537 4 #[] #[])
  fields := #[]
  methods := #[]
  instanceTypes := #[]
  staticTypes := #[]
  resolved := Array.replicate 8 none
  statics := none }

/-- the primitive byte -/
def k8 : Class := { plain "byte" none with kind := .primitive 'B', accessFlags := 0x411 }
/-- [B -/
def k9 : Class := { plain "[B" (some 0) with kind := .array 8 .byte, interfaces := #[7, 4], accessFlags := 1041 }

/-- the primitive int -/
def k10 : Class := { plain "int" none with kind := .primitive 'I', accessFlags := 0x411 }
/-- [I -/
def k11 : Class := { plain "[I" (some 0) with kind := .array 10 .int, interfaces := #[7, 4], accessFlags := 1041 }

/-- [Lcom/example/codicil/codicil/FieldKind; -/
def k12 : Class := { plain "[Lcom/example/codicil/codicil/FieldKind;" (some 0) with kind := .array 6 (.object "com/example/codicil/codicil/FieldKind"), interfaces := #[7, 4], accessFlags := 1041 }

def heap : Heap := #[{ cls := 6, slots := #[.ref 2, .ref 3, .ref 4, .ref 5, .ref 6, .ref 7, .ref 8, .ref 9, .ref 1, .null], vm := .statics 6 },
  { cls := 12, slots := #[.ref 2, .ref 3, .ref 4, .ref 5, .ref 6, .ref 7, .ref 8, .ref 9], vm := .none },
  { cls := 6, slots := #[.null, .int 0, .int 0, .int 0], vm := .none },
  { cls := 6, slots := #[.null, .int 1, .int 0, .int 1], vm := .none },
  { cls := 6, slots := #[.null, .int 2, .int 0, .int 2], vm := .none },
  { cls := 6, slots := #[.null, .int 3, .int 0, .int 3], vm := .none },
  { cls := 6, slots := #[.null, .int 4, .int 0, .int 4], vm := .none },
  { cls := 6, slots := #[.null, .int 5, .int 0, .int 5], vm := .none },
  { cls := 6, slots := #[.null, .int 6, .int 0, .int 6], vm := .none },
  { cls := 6, slots := #[.null, .int 7, .int 0, .int 7], vm := .none }]
def classes : Array Class := #[k0, k1, k2, k3, k4, k5, k6, k7, k8, k9, k10, k11, k12]
def interned : List (Array UInt16 × Addr) := []
def slotsUsed : Nat := 50
def theMethod : MethodId := ⟨1, 2⟩
def args0 : Array Value := #[.int 5]
def aboutOver (below : List Frame) : State where
  vm := { classes := classes, interned := interned.toArray }
  heap := heap
  slotsUsed := slotsUsed
  threads := #[{ frames := .invoking theMethod args0 :: below }]
def below0 : List Frame := [.native { method := ⟨0, 0⟩, args := #[] }]
def about1 : State := aboutOver below0
def p0 : Program := .bare "" "" ""
def e0 : Env := launch0.env 0 0 0
theorem w_frames : about1.frames = Frame.invoking theMethod args0 :: below0 := rfl
set_option maxRecDepth 65536 in
theorem w_args : argsFit about1.vm theMethod args0 = true := by decide +kernel
set_option maxRecDepth 65536 in
theorem w_heap : heapFits about1 = true := by decide +kernel
set_option maxRecDepth 65536 in
theorem w_runnable : about1.curStatus? = some .runnable := by decide +kernel
set_option maxRecDepth 65536 in
theorem w_alone : about1.alone = true := by decide +kernel
set_option maxRecDepth 65536 in
theorem w_named : about1.methodNamed? x = some theMethod := by decide +kernel
set_option maxRecDepth 65536 in
theorem w_hears : about1.hears theMethod below0 = true := by decide +kernel
set_option maxRecDepth 65536 in
theorem w_ripe : about1.ripe theMethod args0 below0 = true := by decide +kernel
theorem w_running : about1.status = .running := rfl
set_option maxRecDepth 65536 in
theorem w_room : about1.hasRoom e0.platform room_1 = true :=
  launch0.hasRoom_least _ room_1 (by decide +kernel) (by decide +kernel) (by decide +kernel) (by decide +kernel) (by decide +kernel) (by decide +kernel)
theorem allAtoms_all (ts : List Jvm.Cond) (a : Array Jvm.Value) (st : Jvm.State) : (allAtoms ts).before a st = ts.all (fun c => c.before a st) := by
  induction ts with
  | nil => rfl
  | cons c t ih =>
    show (Jvm.Cond.and c (allAtoms t)).before a st = _
    rw [Jvm.Cond.before_and, ih, List.all_cons]
def words1 : List Jvm.Cond := Jvm.Cond.code x code maxLocals ret :: tables_1
/-- a 'code' word, met by the world's own term for the bytes: nothing is compared byte by byte -/
theorem code_word {y : MethodName} {bytes : ByteArray} {mx : Nat} {rt : Option FieldType} {a : Array Value} {s : State} {m : MethodId} {meth : Method} {c : Code} (h1 : s.methodNamed? y = some m) (h2 : s.vm.method? m = some meth) (h3 : meth.code = some c) (h4 : c.code = bytes)
    (h5 : (c.maxLocals == mx && c.exceptionTable.isEmpty && decide (c.maxStack ≤ mostOperands) && decide (meth.sig.returnType = rt) && !meth.locks && decide (parseMethodDescriptor y.desc = some meth.sig)) = true) : (Jvm.Cond.code y bytes mx rt).before a s = true := by
  simp only [Bool.and_eq_true, beq_iff_eq, Bool.not_eq_true', decide_eq_true_eq] at h5
  obtain ⟨⟨⟨⟨⟨g1, g2⟩, g3⟩, g4⟩, g5⟩, g6⟩ := h5
  simp [Cond.before, Cond.holds, Cond.value, h1, h2, h3, h4, g1, g2, g3, g4, g5, g6]
def isCode : Jvm.Cond → Bool
  | .code _ _ _ _ => true
  | _ => false
theorem all_split {L : List Jvm.Cond} {P : Jvm.Cond → Bool} (h1 : L.all (fun c => isCode c || P c) = true) (h2 : ∀ c ∈ L.filter isCode, P c = true) : L.all P = true := by
  refine List.all_eq_true.mpr fun c hc => ?_
  have h := List.all_eq_true.mp h1 c hc
  rcases Bool.eq_false_or_eq_true (isCode c) with hi | hi
  · exact h2 c (List.mem_filter.mpr ⟨hc, hi⟩)
  · simpa [hi] using h
set_option maxRecDepth 65536 in
theorem w_c0 : (Jvm.Cond.code x code maxLocals ret).before args0 about1 = true := code_word (m := ⟨1, 2⟩) (meth := k1m2) (c := k1c2) (by decide +kernel) rfl rfl rfl (by decide +kernel)
set_option maxRecDepth 65536 in
theorem w_c1 : (Jvm.Cond.code ({ cls := "com/example/codicil/codicil/FieldKindForCodePinLaw", name := "expected", desc := "(I)Lcom/example/codicil/codicil/FieldKind;" } : Jvm.MethodName) method_2_code (1 : Nat) (Option.some (Jvm.ClassFile.FieldType.object "com/example/codicil/codicil/FieldKind"))).before args0 about1 = true := code_word (m := ⟨1, 1⟩) (meth := k1m1) (c := k1c1) (by decide +kernel) rfl rfl rfl (by decide +kernel)
set_option maxRecDepth 65536 in
theorem w_c2 : (Jvm.Cond.code ({ cls := "com/example/codicil/codicil/FieldKind", name := "forCode", desc := "(I)Lcom/example/codicil/codicil/FieldKind;" } : Jvm.MethodName) prog_8_method_5_code (1 : Nat) (Option.some (Jvm.ClassFile.FieldType.object "com/example/codicil/codicil/FieldKind"))).before args0 about1 = true := code_word (m := ⟨6, 1⟩) (meth := k6m1) (c := k6c1) (by decide +kernel) rfl rfl rfl (by decide +kernel)
set_option maxRecDepth 65536 in
theorem w_c3 : (Jvm.Cond.code ({ cls := "com/example/codicil/codicil/FieldKind", name := "code", desc := "()I" } : Jvm.MethodName) prog_8_method_4_code (1 : Nat) (Option.some Jvm.ClassFile.FieldType.int)).before args0 about1 = true := code_word (m := ⟨6, 0⟩) (meth := k6m0) (c := k6c0) (by decide +kernel) rfl rfl rfl (by decide +kernel)
def codes1 : List Jvm.Cond := [Jvm.Cond.code x code maxLocals ret, Jvm.Cond.code ({ cls := "com/example/codicil/codicil/FieldKindForCodePinLaw", name := "expected", desc := "(I)Lcom/example/codicil/codicil/FieldKind;" } : Jvm.MethodName) method_2_code (1 : Nat) (Option.some (Jvm.ClassFile.FieldType.object "com/example/codicil/codicil/FieldKind")), Jvm.Cond.code ({ cls := "com/example/codicil/codicil/FieldKind", name := "forCode", desc := "(I)Lcom/example/codicil/codicil/FieldKind;" } : Jvm.MethodName) prog_8_method_5_code (1 : Nat) (Option.some (Jvm.ClassFile.FieldType.object "com/example/codicil/codicil/FieldKind")), Jvm.Cond.code ({ cls := "com/example/codicil/codicil/FieldKind", name := "code", desc := "()I" } : Jvm.MethodName) prog_8_method_4_code (1 : Nat) (Option.some Jvm.ClassFile.FieldType.int)]
set_option maxRecDepth 65536 in
theorem codes_eq : words1.filter isCode = codes1 := rfl
theorem w_codes : ∀ c ∈ words1.filter isCode, c.before args0 about1 = true := by
  rw [codes_eq]
  intro c hc
  simp only [codes1, List.mem_cons, List.not_mem_nil, or_false] at hc
  rcases hc with rfl | rfl | rfl | rfl
  · exact w_c0
  · exact w_c1
  · exact w_c2
  · exact w_c3
set_option maxRecDepth 65536 in
theorem w_t1 : (words1.take 24).all (fun c => isCode c || c.before args0 about1) = true := by decide +kernel
set_option maxRecDepth 65536 in
theorem w_t2 : (words1.drop 24).all (fun c => isCode c || c.before args0 about1) = true := by decide +kernel
theorem w_tables : (allAtoms (Jvm.Cond.code x code maxLocals ret :: tables_1)).before args0 about1 = true := by
  rw [allAtoms_all]
  show words1.all (fun c => c.before args0 about1) = true
  refine all_split ?_ w_codes
  rw [← List.take_append_drop 24 words1, List.all_append, w_t1, w_t2]
  rfl
set_option maxRecDepth 65536 in
theorem w_case : (Jvm.Cond.and given_1 narrow_1).before args0 about1 = true := by decide +kernel
theorem w_applies : (headSpec (Jvm.Cond.code x code maxLocals ret :: tables_1) room_1).applies x e0.platform about1 = true :=
  (Spec.applies_iff w_frames).mpr ⟨w_running, w_runnable, w_alone, w_named, w_hears, w_ripe, w_room, w_tables⟩
theorem atStart : AtStart classFile x code maxLocals ret World_1 tables_1 room_1 Calls_1 rest_1 Pre_1 launch0 p0 e0 about1 theMethod args0 below0 :=
  ⟨lists_1, trivial, launch0.admits_env _ _ _, launch0.least_env, fairChoices_fair.cas, fairChoices_fair.clock, w_frames, w_args, w_heap, w_applies, trivial, trivial, w_case⟩
end start1
theorem witness_1 : WitnessClaimed_1 := ⟨start1.p0, start1.e0, start1.about1, start1.theMethod, start1.args0, start1.below0, start1.atStart⟩
end Jvm.Pilot.@@N@@
