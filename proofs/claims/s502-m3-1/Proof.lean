import JvmDerived
import JvmDerived.Pilot.@@N@@Statement
import JvmDerived.Pilot.@@N@@Code
set_option linter.unusedVariables false
set_option linter.unusedSimpArgs false
namespace Jvm.Pilot.@@N@@
open Jvm Jvm.ClassFile Sem Op Lib Jvm.Free Jvm.Stand Jvm.LawKit Jvm.RoadKit Bundle Jvm.Pilot.@@N@@.Jvm.D
section Layer
variable {p : Program} {l : Launch} {e : Env} {R : Room} {s : State} {m : MethodId} {args : Array Value} {below : List Frame} {meth : Method} {c : Code} {T : State} {locs : List Loc} {cells slots : Nat} {Q : Option Value → Heap → List Loc → Prop} {K N : Nat} {pc n : Nat} {Ls : Array Slot} {rest st : List Value} {Z : State} {a0 : Array Value} {h : Heap}
/-- from st on the invocation ends as Q says -/
def Goes (p : Program) (e : Env) (below : List Frame) (s : State) (Q : Option Value → Heap → List Loc → Prop) (K N : Nat) (st : State) : Prop :=
  ∃ s₂ o, Steps p.tables e below st s₂ ∧ s₂.status = .running ∧ Ended s₂ below o ∧ ∃ v L, o = .returned v ∧ Q v s₂.heap L ∧ FrameEnd s o s₂ L K N
theorem Goes.via {st st' : State} (g : Goes p e below s Q K N st') (h : ∀ t, Steps p.tables e below st' t → Steps p.tables e below st t) : Goes p e below s Q K N st := by
  obtain ⟨s₂, o, h1, r⟩ := g
  exact ⟨s₂, o, h _ h1, r⟩
/-- a body's contract -/
def Does (l : Launch) (Z : State) (y : MethodName) (bytes : ByteArray) (maxL : Nat) (ret : Option FieldType) (ws : List Jvm.Cond) (rm : Room) (as : Array Value) (h : Heap) (Q : Option Value → Heap → List Loc → Prop) : Prop :=
  MetFree l y (head1 (Jvm.Cond.code y bytes maxL ret :: ws) rm) (fun a U => a = as ∧ Z.Warmed39 U.vm ∧ U.heap = h) (fun _ _ _ _ _ => True) (fun _ U o U' => ∃ v L, o = .returned v ∧ Q v U'.heap L ∧ FrameEnd U o U' L rm.cells rm.slots)
theorem Does.of {y : MethodName} {bytes : ByteArray} {maxL : Nat} {ret : Option FieldType} {ws : List Jvm.Cond} {rm : Room} {as : Array Value} (hpl : plainFor y = true)
    (body : ∀ (p : Program) (e : Env) (s : State) (m : MethodId) (below : List Frame) (meth : Method) (c : Code) (T : State), p.tables.exec = Jvm.exec → c.code = bytes → c.maxLocals = maxL → s.vm.findClass y.cls = some m.cls → meth.name = y.name → meth.sig.returnType = ret → meth.locks = false → Z.Warmed39 s.vm → Stand p l e rm s m as below meth c T [] 0 0 → T.heap = h → Goes p e below s Q rm.cells rm.slots (T.setTop (entryFrame m as maxL))) : Does l Z y bytes maxL ret ws rm as h Q := by
  refine MetFree.of_bodySF hpl hisR ?_
  intro p e s m args below meth c s₁ Bd hml0 hP hK
  obtain ⟨rfl, hZ, hh⟩ := hP
  have X0 : Stand p l e rm s m args below meth c s₁ [] 0 0 := Stand.of_body Bd
  exact body p e s m below meth c s₁ Bd.exec Bd.bytes hml0 (findClass_of_methodNamed Bd.named) (name_of_methodNamed Bd.named Bd.method).1 Bd.returns Bd.notSynchronized hZ X0 (by rw [← hh, Bd.state]; rfl)
theorem o_entry {as : Array Value} {maxL : Nat} (q : entryFrame m as maxL = mkF m 0 Ls []) (g : Goes p e below s Q K N (T.setTop (mkF m 0 Ls []))) : Goes p e below s Q K N (T.setTop (entryFrame m as maxL)) := q ▸ g
theorem o_iload (X : Stand p l e R s m args below meth c T locs cells slots) (hx : p.tables.exec = Jvm.exec) {j : Nat} {v : Int32} (hd : decode c.code pc = .ok (.iload j, 2)) (hl : Ls[j]? = some (.val (.int v))) (hn : pc + 2 = n) (g : Goes p e below s Q K N (T.setTop (mkF m n Ls (.int v :: st)))) : Goes p e below s Q K N (T.setTop (mkF m pc Ls st)) := by
  subst hn
  exact g.via fun t k => XS.iload X.here hx rfl hd hl k
theorem o_iloadN (X : Stand p l e R s m args below meth c T locs cells slots) (hx : p.tables.exec = Jvm.exec) {j : Fin 4} {v : Int32} (hd : decode c.code pc = .ok (.iload_n j, 1)) (hl : Ls[j.val]? = some (.val (.int v))) (hn : pc + 1 = n) (g : Goes p e below s Q K N (T.setTop (mkF m n Ls (.int v :: st)))) : Goes p e below s Q K N (T.setTop (mkF m pc Ls st)) := by
  subst hn
  exact g.via fun t k => XS.iloadN X.here hx rfl hd hl k
theorem o_lload (X : Stand p l e R s m args below meth c T locs cells slots) (hx : p.tables.exec = Jvm.exec) {j : Nat} {v : Int64} (hd : decode c.code pc = .ok (.lload j, 2)) (hl : Ls[j]? = some (.val (.long v))) (hn : pc + 2 = n) (g : Goes p e below s Q K N (T.setTop (mkF m n Ls (.long v :: st)))) : Goes p e below s Q K N (T.setTop (mkF m pc Ls st)) := by
  subst hn
  exact g.via fun t k => XS.lload X.here hx rfl hd hl k
theorem o_lloadN (X : Stand p l e R s m args below meth c T locs cells slots) (hx : p.tables.exec = Jvm.exec) {j : Fin 4} {v : Int64} (hd : decode c.code pc = .ok (.lload_n j, 1)) (hl : Ls[j.val]? = some (.val (.long v))) (hn : pc + 1 = n) (g : Goes p e below s Q K N (T.setTop (mkF m n Ls (.long v :: st)))) : Goes p e below s Q K N (T.setTop (mkF m pc Ls st)) := by
  subst hn
  exact g.via fun t k => XS.lloadN X.here hx rfl hd hl k
theorem o_aload (X : Stand p l e R s m args below meth c T locs cells slots) (hx : p.tables.exec = Jvm.exec) {j : Nat} {v : Value} (hd : decode c.code pc = .ok (.aload j, 2)) (hl : Ls[j]? = some (.val v)) (hv : v.isRef = true) (hn : pc + 2 = n) (g : Goes p e below s Q K N (T.setTop (mkF m n Ls (v :: st)))) : Goes p e below s Q K N (T.setTop (mkF m pc Ls st)) := by
  subst hn
  exact g.via fun t k => XS.aload X.here hx rfl hd hl hv k
theorem o_aloadN (X : Stand p l e R s m args below meth c T locs cells slots) (hx : p.tables.exec = Jvm.exec) {j : Fin 4} {v : Value} (hd : decode c.code pc = .ok (.aload_n j, 1)) (hl : Ls[j.val]? = some (.val v)) (hv : v.isRef = true) (hn : pc + 1 = n) (g : Goes p e below s Q K N (T.setTop (mkF m n Ls (v :: st)))) : Goes p e below s Q K N (T.setTop (mkF m pc Ls st)) := by
  subst hn
  exact g.via fun t k => XS.aloadN X.here hx rfl hd hl hv k
theorem o_istore (X : Stand p l e R s m args below meth c T locs cells slots) (hx : p.tables.exec = Jvm.exec) {j : Nat} {v : Int32} {Ls' : Array Slot} (hd : decode c.code pc = .ok (.istore j, 2)) (hl : storeLocals Ls j (.int v) = some Ls') (hn : pc + 2 = n) (g : Goes p e below s Q K N (T.setTop (mkF m n Ls' rest))) : Goes p e below s Q K N (T.setTop (mkF m pc Ls (.int v :: rest))) := by
  subst hn
  exact g.via fun t k => XS.istore X.here hx rfl hd rfl hl k
theorem o_istoreN (X : Stand p l e R s m args below meth c T locs cells slots) (hx : p.tables.exec = Jvm.exec) {j : Fin 4} {v : Int32} {Ls' : Array Slot} (hd : decode c.code pc = .ok (.istore_n j, 1)) (hl : storeLocals Ls j.val (.int v) = some Ls') (hn : pc + 1 = n) (g : Goes p e below s Q K N (T.setTop (mkF m n Ls' rest))) : Goes p e below s Q K N (T.setTop (mkF m pc Ls (.int v :: rest))) := by
  subst hn
  exact g.via fun t k => XS.istoreN X.here hx rfl hd rfl hl k
theorem o_lstore (X : Stand p l e R s m args below meth c T locs cells slots) (hx : p.tables.exec = Jvm.exec) {j : Nat} {v : Int64} {Ls' : Array Slot} (hd : decode c.code pc = .ok (.lstore j, 2)) (hl : storeLocals Ls j (.long v) = some Ls') (hn : pc + 2 = n) (g : Goes p e below s Q K N (T.setTop (mkF m n Ls' rest))) : Goes p e below s Q K N (T.setTop (mkF m pc Ls (.long v :: rest))) := by
  subst hn
  exact g.via fun t k => XS.lstore X.here hx rfl hd rfl hl k
theorem o_lstoreN (X : Stand p l e R s m args below meth c T locs cells slots) (hx : p.tables.exec = Jvm.exec) {j : Fin 4} {v : Int64} {Ls' : Array Slot} (hd : decode c.code pc = .ok (.lstore_n j, 1)) (hl : storeLocals Ls j.val (.long v) = some Ls') (hn : pc + 1 = n) (g : Goes p e below s Q K N (T.setTop (mkF m n Ls' rest))) : Goes p e below s Q K N (T.setTop (mkF m pc Ls (.long v :: rest))) := by
  subst hn
  exact g.via fun t k => XS.lstoreN X.here hx rfl hd rfl hl k
theorem o_astore (X : Stand p l e R s m args below meth c T locs cells slots) (hx : p.tables.exec = Jvm.exec) {j : Nat} {v : Value} {Ls' : Array Slot} (hd : decode c.code pc = .ok (.astore j, 2)) (hv : v.isRef = true) (hl : storeLocals Ls j v = some Ls') (hn : pc + 2 = n) (g : Goes p e below s Q K N (T.setTop (mkF m n Ls' rest))) : Goes p e below s Q K N (T.setTop (mkF m pc Ls (v :: rest))) := by
  subst hn
  exact g.via fun t k => XS.astore X.here hx rfl hd rfl hv hl k
theorem o_astoreN (X : Stand p l e R s m args below meth c T locs cells slots) (hx : p.tables.exec = Jvm.exec) {j : Fin 4} {v : Value} {Ls' : Array Slot} (hd : decode c.code pc = .ok (.astore_n j, 1)) (hv : v.isRef = true) (hl : storeLocals Ls j.val v = some Ls') (hn : pc + 1 = n) (g : Goes p e below s Q K N (T.setTop (mkF m n Ls' rest))) : Goes p e below s Q K N (T.setTop (mkF m pc Ls (v :: rest))) := by
  subst hn
  exact g.via fun t k => XS.astoreN X.here hx rfl hd rfl hv hl k
theorem o_iinc (X : Stand p l e R s m args below meth c T locs cells slots) (hx : p.tables.exec = Jvm.exec) {j : Nat} {cst : Int} {x w : Int32} {Ls' : Array Slot} (hd : decode c.code pc = .ok (.iinc j cst, 3)) (hl : Ls[j]? = some (.val (.int x))) (hw : x + Int32.ofInt cst = w) (hl' : storeLocals Ls j (.int w) = some Ls') (hn : pc + 3 = n) (g : Goes p e below s Q K N (T.setTop (mkF m n Ls' st))) : Goes p e below s Q K N (T.setTop (mkF m pc Ls st)) := by
  subst hn
  exact g.via fun t k => XS.iinc X.here hx rfl hd hl (by rw [hw]; exact hl') k
theorem o_iconst (X : Stand p l e R s m args below meth c T locs cells slots) (hx : p.tables.exec = Jvm.exec) {i : Int} {v : Int32} (hd : decode c.code pc = .ok (.iconst i, 1)) (hv : Int32.ofInt i = v) (hn : pc + 1 = n) (g : Goes p e below s Q K N (T.setTop (mkF m n Ls (.int v :: st)))) : Goes p e below s Q K N (T.setTop (mkF m pc Ls st)) := by
  subst hn hv
  exact g.via fun t k => XS.iconst X.here hx rfl hd k
theorem o_bipush (X : Stand p l e R s m args below meth c T locs cells slots) (hx : p.tables.exec = Jvm.exec) {i : Int} {v : Int32} (hd : decode c.code pc = .ok (.bipush i, 2)) (hv : (Int8.ofInt i).toInt32 = v) (hn : pc + 2 = n) (g : Goes p e below s Q K N (T.setTop (mkF m n Ls (.int v :: st)))) : Goes p e below s Q K N (T.setTop (mkF m pc Ls st)) := by
  subst hn hv
  exact g.via fun t k => XS.bipush X.here hx rfl hd k
theorem o_sipush (X : Stand p l e R s m args below meth c T locs cells slots) (hx : p.tables.exec = Jvm.exec) {i : Int} {v : Int32} (hd : decode c.code pc = .ok (.sipush i, 3)) (hv : (Int16.ofInt i).toInt32 = v) (hn : pc + 3 = n) (g : Goes p e below s Q K N (T.setTop (mkF m n Ls (.int v :: st)))) : Goes p e below s Q K N (T.setTop (mkF m pc Ls st)) := by
  subst hn hv
  exact g.via fun t k => XS.sipush X.here hx rfl hd k
theorem o_lconst (X : Stand p l e R s m args below meth c T locs cells slots) (hx : p.tables.exec = Jvm.exec) {j : Fin 2} {v : Int64} (hd : decode c.code pc = .ok (.lconst j, 1)) (hv : Int64.ofNat j = v) (hn : pc + 1 = n) (g : Goes p e below s Q K N (T.setTop (mkF m n Ls (.long v :: st)))) : Goes p e below s Q K N (T.setTop (mkF m pc Ls st)) := by
  subst hn hv
  exact g.via fun t k => XS.lconst X.here hx rfl hd k
theorem o_aconst_null (X : Stand p l e R s m args below meth c T locs cells slots) (hx : p.tables.exec = Jvm.exec)  (hd : decode c.code pc = .ok (.aconst_null, 1)) (hn : pc + 1 = n) (g : Goes p e below s Q K N (T.setTop (mkF m n Ls (.null :: st)))) : Goes p e below s Q K N (T.setTop (mkF m pc Ls st)) := by
  subst hn
  exact g.via fun t k => XS.aconstNull X.here hx rfl hd k
theorem o_ldc (X : Stand p l e R s m args below meth c T locs cells slots) (hx : p.tables.exec = Jvm.exec)  (hZ : Z.Warmed39 s.vm) {own : String} {index : Nat} {v : Int32} (hown : s.vm.findClass own = some m.cls) (w : (Jvm.Cond.constant own index v).before a0 Z = true) (hd : decode c.code pc = .ok (.ldc index, 2)) (hn : pc + 2 = n) (g : Goes p e below s Q K N (T.setTop (mkF m n Ls (.int v :: st)))) : Goes p e below s Q K N (T.setTop (mkF m pc Ls st)) := by
  subst hn
  exact g.via fun t k => X.ldcInt hx hown (mvT hZ w) (g := mkF m pc Ls st) rfl hd t k
theorem o_ldc_w (X : Stand p l e R s m args below meth c T locs cells slots) (hx : p.tables.exec = Jvm.exec)  (hZ : Z.Warmed39 s.vm) {own : String} {index : Nat} {v : Int32} (hown : s.vm.findClass own = some m.cls) (w : (Jvm.Cond.constant own index v).before a0 Z = true) (hd : decode c.code pc = .ok (.ldc_w index, 3)) (hn : pc + 3 = n) (g : Goes p e below s Q K N (T.setTop (mkF m n Ls (.int v :: st)))) : Goes p e below s Q K N (T.setTop (mkF m pc Ls st)) := by
  subst hn
  exact g.via fun t k => X.ldcWInt hx hown (mvT hZ w) (g := mkF m pc Ls st) rfl hd t k
theorem o_ldc2_w (X : Stand p l e R s m args below meth c T locs cells slots) (hx : p.tables.exec = Jvm.exec)  (hZ : Z.Warmed39 s.vm) {own : String} {index : Nat} {v : Int64} (hown : s.vm.findClass own = some m.cls) (w : (Jvm.Cond.constantLong own index v).before a0 Z = true) (hd : decode c.code pc = .ok (.ldc2_w index, 3)) (hn : pc + 3 = n) (g : Goes p e below s Q K N (T.setTop (mkF m n Ls (.long v :: st)))) : Goes p e below s Q K N (T.setTop (mkF m pc Ls st)) := by
  subst hn
  exact g.via fun t k => X.ldc2Long hx hown (mvT hZ w) (g := mkF m pc Ls st) rfl hd t k
theorem o_iadd (X : Stand p l e R s m args below meth c T locs cells slots) (hx : p.tables.exec = Jvm.exec) {x y v : Int32} (hd : decode c.code pc = .ok (.iadd, 1)) (hv : x + y = v) (hn : pc + 1 = n) (g : Goes p e below s Q K N (T.setTop (mkF m n Ls (.int v :: rest)))) : Goes p e below s Q K N (T.setTop (mkF m pc Ls (.int y :: .int x :: rest))) := by
  subst hn hv
  exact g.via fun t k => XS.iadd X.here hx rfl hd rfl k
theorem o_isub (X : Stand p l e R s m args below meth c T locs cells slots) (hx : p.tables.exec = Jvm.exec) {x y v : Int32} (hd : decode c.code pc = .ok (.isub, 1)) (hv : x - y = v) (hn : pc + 1 = n) (g : Goes p e below s Q K N (T.setTop (mkF m n Ls (.int v :: rest)))) : Goes p e below s Q K N (T.setTop (mkF m pc Ls (.int y :: .int x :: rest))) := by
  subst hn hv
  exact g.via fun t k => XS.isub X.here hx rfl hd rfl k
theorem o_imul (X : Stand p l e R s m args below meth c T locs cells slots) (hx : p.tables.exec = Jvm.exec) {x y v : Int32} (hd : decode c.code pc = .ok (.imul, 1)) (hv : x * y = v) (hn : pc + 1 = n) (g : Goes p e below s Q K N (T.setTop (mkF m n Ls (.int v :: rest)))) : Goes p e below s Q K N (T.setTop (mkF m pc Ls (.int y :: .int x :: rest))) := by
  subst hn hv
  exact g.via fun t k => XS.imul X.here hx rfl hd rfl k
theorem o_iand (X : Stand p l e R s m args below meth c T locs cells slots) (hx : p.tables.exec = Jvm.exec) {x y v : Int32} (hd : decode c.code pc = .ok (.iand, 1)) (hv : x &&& y = v) (hn : pc + 1 = n) (g : Goes p e below s Q K N (T.setTop (mkF m n Ls (.int v :: rest)))) : Goes p e below s Q K N (T.setTop (mkF m pc Ls (.int y :: .int x :: rest))) := by
  subst hn hv
  exact g.via fun t k => XS.iand X.here hx rfl hd rfl k
theorem o_ior (X : Stand p l e R s m args below meth c T locs cells slots) (hx : p.tables.exec = Jvm.exec) {x y v : Int32} (hd : decode c.code pc = .ok (.ior, 1)) (hv : x ||| y = v) (hn : pc + 1 = n) (g : Goes p e below s Q K N (T.setTop (mkF m n Ls (.int v :: rest)))) : Goes p e below s Q K N (T.setTop (mkF m pc Ls (.int y :: .int x :: rest))) := by
  subst hn hv
  exact g.via fun t k => XS.ior X.here hx rfl hd rfl k
theorem o_ixor (X : Stand p l e R s m args below meth c T locs cells slots) (hx : p.tables.exec = Jvm.exec) {x y v : Int32} (hd : decode c.code pc = .ok (.ixor, 1)) (hv : x ^^^ y = v) (hn : pc + 1 = n) (g : Goes p e below s Q K N (T.setTop (mkF m n Ls (.int v :: rest)))) : Goes p e below s Q K N (T.setTop (mkF m pc Ls (.int y :: .int x :: rest))) := by
  subst hn hv
  exact g.via fun t k => XS.ixor X.here hx rfl hd rfl k
theorem o_ladd (X : Stand p l e R s m args below meth c T locs cells slots) (hx : p.tables.exec = Jvm.exec) {x y v : Int64} (hd : decode c.code pc = .ok (.ladd, 1)) (hv : x + y = v) (hn : pc + 1 = n) (g : Goes p e below s Q K N (T.setTop (mkF m n Ls (.long v :: rest)))) : Goes p e below s Q K N (T.setTop (mkF m pc Ls (.long y :: .long x :: rest))) := by
  subst hn hv
  exact g.via fun t k => XS.ladd X.here hx rfl hd rfl k
theorem o_lsub (X : Stand p l e R s m args below meth c T locs cells slots) (hx : p.tables.exec = Jvm.exec) {x y v : Int64} (hd : decode c.code pc = .ok (.lsub, 1)) (hv : x - y = v) (hn : pc + 1 = n) (g : Goes p e below s Q K N (T.setTop (mkF m n Ls (.long v :: rest)))) : Goes p e below s Q K N (T.setTop (mkF m pc Ls (.long y :: .long x :: rest))) := by
  subst hn hv
  exact g.via fun t k => XS.lsub X.here hx rfl hd rfl k
theorem o_lmul (X : Stand p l e R s m args below meth c T locs cells slots) (hx : p.tables.exec = Jvm.exec) {x y v : Int64} (hd : decode c.code pc = .ok (.lmul, 1)) (hv : x * y = v) (hn : pc + 1 = n) (g : Goes p e below s Q K N (T.setTop (mkF m n Ls (.long v :: rest)))) : Goes p e below s Q K N (T.setTop (mkF m pc Ls (.long y :: .long x :: rest))) := by
  subst hn hv
  exact g.via fun t k => XS.lmul X.here hx rfl hd rfl k
theorem o_land (X : Stand p l e R s m args below meth c T locs cells slots) (hx : p.tables.exec = Jvm.exec) {x y v : Int64} (hd : decode c.code pc = .ok (.land, 1)) (hv : x &&& y = v) (hn : pc + 1 = n) (g : Goes p e below s Q K N (T.setTop (mkF m n Ls (.long v :: rest)))) : Goes p e below s Q K N (T.setTop (mkF m pc Ls (.long y :: .long x :: rest))) := by
  subst hn hv
  exact g.via fun t k => XS.land X.here hx rfl hd rfl k
theorem o_lor (X : Stand p l e R s m args below meth c T locs cells slots) (hx : p.tables.exec = Jvm.exec) {x y v : Int64} (hd : decode c.code pc = .ok (.lor, 1)) (hv : x ||| y = v) (hn : pc + 1 = n) (g : Goes p e below s Q K N (T.setTop (mkF m n Ls (.long v :: rest)))) : Goes p e below s Q K N (T.setTop (mkF m pc Ls (.long y :: .long x :: rest))) := by
  subst hn hv
  exact g.via fun t k => XS.lor X.here hx rfl hd rfl k
theorem o_lxor (X : Stand p l e R s m args below meth c T locs cells slots) (hx : p.tables.exec = Jvm.exec) {x y v : Int64} (hd : decode c.code pc = .ok (.lxor, 1)) (hv : x ^^^ y = v) (hn : pc + 1 = n) (g : Goes p e below s Q K N (T.setTop (mkF m n Ls (.long v :: rest)))) : Goes p e below s Q K N (T.setTop (mkF m pc Ls (.long y :: .long x :: rest))) := by
  subst hn hv
  exact g.via fun t k => XS.lxor X.here hx rfl hd rfl k
theorem o_idiv (X : Stand p l e R s m args below meth c T locs cells slots) (hx : p.tables.exec = Jvm.exec) {x y v : Int32} (hd : decode c.code pc = .ok (.idiv, 1)) (hy : y ≠ 0) (hv : x / y = v) (hn : pc + 1 = n) (g : Goes p e below s Q K N (T.setTop (mkF m n Ls (.int v :: rest)))) : Goes p e below s Q K N (T.setTop (mkF m pc Ls (.int y :: .int x :: rest))) := by
  subst hn hv
  exact g.via fun t k => XS.idiv X.here hx rfl hd rfl hy k
theorem o_irem (X : Stand p l e R s m args below meth c T locs cells slots) (hx : p.tables.exec = Jvm.exec) {x y v : Int32} (hd : decode c.code pc = .ok (.irem, 1)) (hy : y ≠ 0) (hv : x % y = v) (hn : pc + 1 = n) (g : Goes p e below s Q K N (T.setTop (mkF m n Ls (.int v :: rest)))) : Goes p e below s Q K N (T.setTop (mkF m pc Ls (.int y :: .int x :: rest))) := by
  subst hn hv
  exact g.via fun t k => iremM X hx (g := mkF m pc Ls _) rfl hd rfl hy k
theorem o_ldiv (X : Stand p l e R s m args below meth c T locs cells slots) (hx : p.tables.exec = Jvm.exec) {x y v : Int64} (hd : decode c.code pc = .ok (.ldiv, 1)) (hy : y ≠ 0) (hv : x / y = v) (hn : pc + 1 = n) (g : Goes p e below s Q K N (T.setTop (mkF m n Ls (.long v :: rest)))) : Goes p e below s Q K N (T.setTop (mkF m pc Ls (.long y :: .long x :: rest))) := by
  subst hn hv
  exact g.via fun t k => XS.ldiv X.here hx rfl hd rfl hy k
theorem o_lrem (X : Stand p l e R s m args below meth c T locs cells slots) (hx : p.tables.exec = Jvm.exec) {x y v : Int64} (hd : decode c.code pc = .ok (.lrem, 1)) (hy : y ≠ 0) (hv : x % y = v) (hn : pc + 1 = n) (g : Goes p e below s Q K N (T.setTop (mkF m n Ls (.long v :: rest)))) : Goes p e below s Q K N (T.setTop (mkF m pc Ls (.long y :: .long x :: rest))) := by
  subst hn hv
  exact g.via fun t k => XS.lrem X.here hx rfl hd rfl hy (by rw [lrem_mod]; exact k)
theorem o_ishl (X : Stand p l e R s m args below meth c T locs cells slots) (hx : p.tables.exec = Jvm.exec) {x y v : Int32} (hd : decode c.code pc = .ok (.ishl, 1)) (hv : x <<< (y &&& 31) = v) (hn : pc + 1 = n) (g : Goes p e below s Q K N (T.setTop (mkF m n Ls (.int v :: rest)))) : Goes p e below s Q K N (T.setTop (mkF m pc Ls (.int y :: .int x :: rest))) := by
  subst hn hv
  exact g.via fun t k => XS.ishl X.here hx rfl hd rfl k
theorem o_ishr (X : Stand p l e R s m args below meth c T locs cells slots) (hx : p.tables.exec = Jvm.exec) {x y v : Int32} (hd : decode c.code pc = .ok (.ishr, 1)) (hv : x >>> (y &&& 31) = v) (hn : pc + 1 = n) (g : Goes p e below s Q K N (T.setTop (mkF m n Ls (.int v :: rest)))) : Goes p e below s Q K N (T.setTop (mkF m pc Ls (.int y :: .int x :: rest))) := by
  subst hn hv
  exact g.via fun t k => XS.ishr X.here hx rfl hd rfl k
theorem o_iushr (X : Stand p l e R s m args below meth c T locs cells slots) (hx : p.tables.exec = Jvm.exec) {x y v : Int32} (hd : decode c.code pc = .ok (.iushr, 1)) (hv : (x.toUInt32 >>> (y &&& 31).toUInt32).toInt32 = v) (hn : pc + 1 = n) (g : Goes p e below s Q K N (T.setTop (mkF m n Ls (.int v :: rest)))) : Goes p e below s Q K N (T.setTop (mkF m pc Ls (.int y :: .int x :: rest))) := by
  subst hn hv
  exact g.via fun t k => XS.iushr X.here hx rfl hd rfl k
theorem o_lshl (X : Stand p l e R s m args below meth c T locs cells slots) (hx : p.tables.exec = Jvm.exec) {x v : Int64} {y : Int32} (hd : decode c.code pc = .ok (.lshl, 1)) (hv : x <<< (y &&& 0x3f).toInt64 = v) (hn : pc + 1 = n) (g : Goes p e below s Q K N (T.setTop (mkF m n Ls (.long v :: rest)))) : Goes p e below s Q K N (T.setTop (mkF m pc Ls (.int y :: .long x :: rest))) := by
  subst hn hv
  exact g.via fun t k => XS.lshl X.here hx rfl hd rfl k
theorem o_lshr (X : Stand p l e R s m args below meth c T locs cells slots) (hx : p.tables.exec = Jvm.exec) {x v : Int64} {y : Int32} (hd : decode c.code pc = .ok (.lshr, 1)) (hv : x >>> (y &&& 0x3f).toInt64 = v) (hn : pc + 1 = n) (g : Goes p e below s Q K N (T.setTop (mkF m n Ls (.long v :: rest)))) : Goes p e below s Q K N (T.setTop (mkF m pc Ls (.int y :: .long x :: rest))) := by
  subst hn hv
  exact g.via fun t k => XS.lshr X.here hx rfl hd rfl k
theorem o_lushr (X : Stand p l e R s m args below meth c T locs cells slots) (hx : p.tables.exec = Jvm.exec) {x v : Int64} {y : Int32} (hd : decode c.code pc = .ok (.lushr, 1)) (hv : (x.toUInt64 >>> (y &&& 0x3f).toInt64.toUInt64).toInt64 = v) (hn : pc + 1 = n) (g : Goes p e below s Q K N (T.setTop (mkF m n Ls (.long v :: rest)))) : Goes p e below s Q K N (T.setTop (mkF m pc Ls (.int y :: .long x :: rest))) := by
  subst hn hv
  exact g.via fun t k => XS.lushr X.here hx rfl hd rfl k
theorem o_i2l (X : Stand p l e R s m args below meth c T locs cells slots) (hx : p.tables.exec = Jvm.exec) {x : Int32} {v : Int64} (hd : decode c.code pc = .ok (.i2l, 1)) (hv : x.toInt64 = v) (hn : pc + 1 = n) (g : Goes p e below s Q K N (T.setTop (mkF m n Ls (.long v :: rest)))) : Goes p e below s Q K N (T.setTop (mkF m pc Ls (.int x :: rest))) := by
  subst hn hv
  exact g.via fun t k => XS.i2l X.here hx rfl hd rfl k
theorem o_l2i (X : Stand p l e R s m args below meth c T locs cells slots) (hx : p.tables.exec = Jvm.exec) {x : Int64} {v : Int32} (hd : decode c.code pc = .ok (.l2i, 1)) (hv : x.toInt32 = v) (hn : pc + 1 = n) (g : Goes p e below s Q K N (T.setTop (mkF m n Ls (.int v :: rest)))) : Goes p e below s Q K N (T.setTop (mkF m pc Ls (.long x :: rest))) := by
  subst hn hv
  exact g.via fun t k => XS.l2i X.here hx rfl hd rfl k
theorem o_i2b (X : Stand p l e R s m args below meth c T locs cells slots) (hx : p.tables.exec = Jvm.exec) {x : Int32} {v : Int32} (hd : decode c.code pc = .ok (.i2b, 1)) (hv : x.toInt8.toInt32 = v) (hn : pc + 1 = n) (g : Goes p e below s Q K N (T.setTop (mkF m n Ls (.int v :: rest)))) : Goes p e below s Q K N (T.setTop (mkF m pc Ls (.int x :: rest))) := by
  subst hn hv
  exact g.via fun t k => XS.i2b X.here hx rfl hd rfl k
theorem o_i2c (X : Stand p l e R s m args below meth c T locs cells slots) (hx : p.tables.exec = Jvm.exec) {x : Int32} {v : Int32} (hd : decode c.code pc = .ok (.i2c, 1)) (hv : x.toUInt32.toUInt16.toUInt32.toInt32 = v) (hn : pc + 1 = n) (g : Goes p e below s Q K N (T.setTop (mkF m n Ls (.int v :: rest)))) : Goes p e below s Q K N (T.setTop (mkF m pc Ls (.int x :: rest))) := by
  subst hn hv
  exact g.via fun t k => XS.i2c X.here hx rfl hd rfl k
theorem o_i2s (X : Stand p l e R s m args below meth c T locs cells slots) (hx : p.tables.exec = Jvm.exec) {x : Int32} {v : Int32} (hd : decode c.code pc = .ok (.i2s, 1)) (hv : x.toInt16.toInt32 = v) (hn : pc + 1 = n) (g : Goes p e below s Q K N (T.setTop (mkF m n Ls (.int v :: rest)))) : Goes p e below s Q K N (T.setTop (mkF m pc Ls (.int x :: rest))) := by
  subst hn hv
  exact g.via fun t k => XS.i2s X.here hx rfl hd rfl k
theorem o_ineg (X : Stand p l e R s m args below meth c T locs cells slots) (hx : p.tables.exec = Jvm.exec) {x : Int32} {v : Int32} (hd : decode c.code pc = .ok (.ineg, 1)) (hv : -x = v) (hn : pc + 1 = n) (g : Goes p e below s Q K N (T.setTop (mkF m n Ls (.int v :: rest)))) : Goes p e below s Q K N (T.setTop (mkF m pc Ls (.int x :: rest))) := by
  subst hn hv
  exact g.via fun t k => XS.ineg X.here hx rfl hd rfl k
theorem o_lneg (X : Stand p l e R s m args below meth c T locs cells slots) (hx : p.tables.exec = Jvm.exec) {x : Int64} {v : Int64} (hd : decode c.code pc = .ok (.lneg, 1)) (hv : -x = v) (hn : pc + 1 = n) (g : Goes p e below s Q K N (T.setTop (mkF m n Ls (.long v :: rest)))) : Goes p e below s Q K N (T.setTop (mkF m pc Ls (.long x :: rest))) := by
  subst hn hv
  exact g.via fun t k => XS.lneg X.here hx rfl hd rfl k
theorem o_lcmp (X : Stand p l e R s m args below meth c T locs cells slots) (hx : p.tables.exec = Jvm.exec) {x y : Int64} (hd : decode c.code pc = .ok (.lcmp, 1)) (hn : pc + 1 = n) (g : Goes p e below s Q K N (T.setTop (mkF m n Ls (.int (XT.cmpL x y) :: rest)))) : Goes p e below s Q K N (T.setTop (mkF m pc Ls (.long y :: .long x :: rest))) := by
  subst hn
  exact g.via fun t k => XT.lcmp X.here hx rfl hd rfl k
theorem o_dup (X : Stand p l e R s m args below meth c T locs cells slots) (hx : p.tables.exec = Jvm.exec) {v : Value} (hd : decode c.code pc = .ok (.dup, 1)) (hv : v.category = 1) (hn : pc + 1 = n) (g : Goes p e below s Q K N (T.setTop (mkF m n Ls (v :: v :: rest)))) : Goes p e below s Q K N (T.setTop (mkF m pc Ls (v :: rest))) := by
  subst hn
  exact g.via fun t k => XS.dup X.here hx rfl hd rfl hv k
theorem o_dup_x1 (X : Stand p l e R s m args below meth c T locs cells slots) (hx : p.tables.exec = Jvm.exec) {v w : Value} (hd : decode c.code pc = .ok (.dup_x1, 1)) (hv : v.category = 1) (hw : w.category = 1) (hn : pc + 1 = n) (g : Goes p e below s Q K N (T.setTop (mkF m n Ls (v :: w :: v :: rest)))) : Goes p e below s Q K N (T.setTop (mkF m pc Ls (v :: w :: rest))) := by
  subst hn
  exact g.via fun t k => XS.dupX1 X.here hx rfl hd rfl hv hw k
theorem o_dup2 (X : Stand p l e R s m args below meth c T locs cells slots) (hx : p.tables.exec = Jvm.exec) {v w : Value} (hd : decode c.code pc = .ok (.dup2, 1)) (hv : v.category = 1) (hw : w.category = 1) (hn : pc + 1 = n) (g : Goes p e below s Q K N (T.setTop (mkF m n Ls (v :: w :: v :: w :: rest)))) : Goes p e below s Q K N (T.setTop (mkF m pc Ls (v :: w :: rest))) := by
  subst hn
  exact g.via fun t k => XT.dup2 X.here hx rfl hd rfl hv hw k
theorem o_pop (X : Stand p l e R s m args below meth c T locs cells slots) (hx : p.tables.exec = Jvm.exec) {v : Value} (hd : decode c.code pc = .ok (.pop, 1)) (hv : v.category = 1) (hn : pc + 1 = n) (g : Goes p e below s Q K N (T.setTop (mkF m n Ls rest))) : Goes p e below s Q K N (T.setTop (mkF m pc Ls (v :: rest))) := by
  subst hn
  exact g.via fun t k => XS.pop X.here hx rfl hd rfl hv k
theorem o_goto (X : Stand p l e R s m args below meth c T locs cells slots) (hx : p.tables.exec = Jvm.exec) {o : Int} (hd : decode c.code pc = .ok (.goto o, 3)) (ho : 0 ≤ (pc : Int) + o) (hn : ((pc : Int) + o).toNat = n) (g : Goes p e below s Q K N (T.setTop (mkF m n Ls st))) : Goes p e below s Q K N (T.setTop (mkF m pc Ls st)) := by
  exact g.via fun t k => XS.goto X.here hx rfl rfl hd ho hn k
theorem o_ifY (X : Stand p l e R s m args below meth c T locs cells slots) (hx : p.tables.exec = Jvm.exec) {cd : ClassFile.Cond} {x : Int32} {o : Int} (hd : decode c.code pc = .ok (.ifCond cd o, 3)) (hc : ifCond.holds cd x = true) (ho : 0 ≤ (pc : Int) + o) (hn : ((pc : Int) + o).toNat = n) (g : Goes p e below s Q K N (T.setTop (mkF m n Ls rest))) : Goes p e below s Q K N (T.setTop (mkF m pc Ls (.int x :: rest))) := by
  exact g.via fun t k => XS.ifYes X.here hx rfl rfl hd rfl hc ho hn k
theorem o_ifN (X : Stand p l e R s m args below meth c T locs cells slots) (hx : p.tables.exec = Jvm.exec) {cd : ClassFile.Cond} {x : Int32} {o : Int} (hd : decode c.code pc = .ok (.ifCond cd o, 3)) (hc : ifCond.holds cd x = false) (hn : pc + 3 = n) (g : Goes p e below s Q K N (T.setTop (mkF m n Ls rest))) : Goes p e below s Q K N (T.setTop (mkF m pc Ls (.int x :: rest))) := by
  subst hn
  exact g.via fun t k => XS.ifNo X.here hx rfl hd rfl hc k
theorem o_icmpY (X : Stand p l e R s m args below meth c T locs cells slots) (hx : p.tables.exec = Jvm.exec) {cd : ClassFile.Cond} {x y : Int32} {o : Int} (hd : decode c.code pc = .ok (.if_icmp cd o, 3)) (hc : if_icmp.holds cd x y = true) (ho : 0 ≤ (pc : Int) + o) (hn : ((pc : Int) + o).toNat = n) (g : Goes p e below s Q K N (T.setTop (mkF m n Ls rest))) : Goes p e below s Q K N (T.setTop (mkF m pc Ls (.int y :: .int x :: rest))) := by
  exact g.via fun t k => XS.icmpYes X.here hx rfl rfl hd rfl hc ho hn k
theorem o_icmpN (X : Stand p l e R s m args below meth c T locs cells slots) (hx : p.tables.exec = Jvm.exec) {cd : ClassFile.Cond} {x y : Int32} {o : Int} (hd : decode c.code pc = .ok (.if_icmp cd o, 3)) (hc : if_icmp.holds cd x y = false) (hn : pc + 3 = n) (g : Goes p e below s Q K N (T.setTop (mkF m n Ls rest))) : Goes p e below s Q K N (T.setTop (mkF m pc Ls (.int y :: .int x :: rest))) := by
  subst hn
  exact g.via fun t k => XS.icmpNo X.here hx rfl hd rfl hc k
theorem o_ifnullY (X : Stand p l e R s m args below meth c T locs cells slots) (hx : p.tables.exec = Jvm.exec) {o : Int} (hd : decode c.code pc = .ok (.ifnull o, 3)) (ho : 0 ≤ (pc : Int) + o) (hn : ((pc : Int) + o).toNat = n) (g : Goes p e below s Q K N (T.setTop (mkF m n Ls rest))) : Goes p e below s Q K N (T.setTop (mkF m pc Ls (.null :: rest))) := by
  exact g.via fun t k => XS.ifnullYes X.here hx rfl rfl hd rfl ho hn k
theorem o_ifnullN (X : Stand p l e R s m args below meth c T locs cells slots) (hx : p.tables.exec = Jvm.exec) {o : Int} {a : Addr} (hd : decode c.code pc = .ok (.ifnull o, 3)) (hn : pc + 3 = n) (g : Goes p e below s Q K N (T.setTop (mkF m n Ls rest))) : Goes p e below s Q K N (T.setTop (mkF m pc Ls (.ref a :: rest))) := by
  subst hn
  exact g.via fun t k => XS.ifnullNo X.here hx rfl hd rfl k
theorem o_ifnonnullY (X : Stand p l e R s m args below meth c T locs cells slots) (hx : p.tables.exec = Jvm.exec) {o : Int} {a : Addr} (hd : decode c.code pc = .ok (.ifnonnull o, 3)) (ho : 0 ≤ (pc : Int) + o) (hn : ((pc : Int) + o).toNat = n) (g : Goes p e below s Q K N (T.setTop (mkF m n Ls rest))) : Goes p e below s Q K N (T.setTop (mkF m pc Ls (.ref a :: rest))) := by
  exact g.via fun t k => XS.ifnonnullYes X.here hx rfl rfl hd rfl ho hn k
theorem o_ifnonnullN (X : Stand p l e R s m args below meth c T locs cells slots) (hx : p.tables.exec = Jvm.exec) {o : Int} (hd : decode c.code pc = .ok (.ifnonnull o, 3)) (hn : pc + 3 = n) (g : Goes p e below s Q K N (T.setTop (mkF m n Ls rest))) : Goes p e below s Q K N (T.setTop (mkF m pc Ls (.null :: rest))) := by
  subst hn
  exact g.via fun t k => XS.ifnonnullNo X.here hx rfl hd rfl k
theorem o_acmp (X : Stand p l e R s m args below meth c T locs cells slots) (hx : p.tables.exec = Jvm.exec) {cd : ACond} {x y : Value} {o : Int} {same : Bool} (hd : decode c.code pc = .ok (.if_acmp cd o, 3)) (h1 : x.isRef = true) (h2 : y.isRef = true) (hq : decide (x = y) = same) (ho : 0 ≤ (pc : Int) + o) (hn : n = if acV cd same = true then ((pc : Int) + o).toNat else pc + 3) (g : Goes p e below s Q K N (T.setTop (mkF m n Ls rest))) : Goes p e below s Q K N (T.setTop (mkF m pc Ls (y :: x :: rest))) := by
  exact g.via fun t k => Jvm.RoadKit.acmp X hx (g := mkF m pc Ls _) rfl h1 h2 rfl hd rfl hq ho hn k
/-! the heap -/
theorem o_getfield (X : Stand p l e R s m args below meth c T locs cells slots) (hx : p.tables.exec = Jvm.exec) (hZ : Z.Warmed39 s.vm) {own R0 O nm d host : String} {index : Nat} (hown : s.vm.findClass own = some m.cls) (w : (Jvm.Cond.fieldLink own index R0 nm d).before a0 Z = true ∨ (Jvm.Cond.fieldLinkNest own index R0 nm d host).before a0 Z = true) (via : Via Z R0 O nm d) (eT : T.heap = h) {a : Addr} {v : Value} (F : Fld Z h a O nm d v)
    (hd : decode c.code pc = .ok (.getfield index, 3)) (hn : pc + 3 = n) (k : ∀ T', Stand p l e R s m args below meth c T' locs cells slots → T'.heap = h → Goes p e below s Q K N (T'.setTop (mkF m n Ls (v :: rest)))) : Goes p e below s Q K N (T.setTop (mkF m pc Ls (.ref a :: rest))) := by
  subst hn
  obtain ⟨T', X', e', st'⟩ := getF X hx hZ hown w via eT F (g := mkF m pc Ls (.ref a :: rest)) rfl rfl hd
  exact (k T' X' e').via st'
theorem o_putfield (X : Stand p l e R s m args below meth c T locs cells slots) (hx : p.tables.exec = Jvm.exec) (hZ : Z.Warmed39 s.vm) {own R0 O nm d host C : String} {index kk : Nat} {ty : FieldType} (hown : s.vm.findClass own = some m.cls) (w : (Jvm.Cond.fieldLink own index R0 nm d).before a0 Z = true ∨ (Jvm.Cond.fieldLinkNest own index R0 nm d host).before a0 Z = true) (via : Via Z R0 O nm d) (eT : T.heap = h) {a : Addr} {v old : Value} (F : Fld Z h a O nm d old) (E : Exa Z h a C)
    (L : (Jvm.Cond.lays C O nm d).before a0 Z = true ∨ ((Jvm.Cond.laysFinal C O nm d).before a0 Z = true ∧ own = O ∧ meth.name = "<init>")) (wi : (Jvm.Cond.instantiable C kk).before a0 Z = true) (hty : parseFieldDescriptor d = some ty) (hnn : narrow ty v = v) (hf : fits ty v = true) (hd : decode c.code pc = .ok (.putfield index, 3)) (hn : pc + 3 = n)
    (k : ∀ T' h', Stand p l e R s m args below meth c T' (locs ++ [⟨a, Jvm.RoadKit.slotOf Z O nm d⟩]) cells slots → T'.heap = h' → Wr h h' a (Jvm.RoadKit.slotOf Z O nm d) v → Fld Z h' a O nm d v → Exa Z h' a C → Goes p e below s Q K N (T'.setTop (mkF m n Ls rest))) : Goes p e below s Q K N (T.setTop (mkF m pc Ls (v :: .ref a :: rest))) := by
  subst hn
  obtain ⟨T', h', X', e', W, st'⟩ := putF X hx hZ hown w via eT F E L wi hty hnn hf (g := mkF m pc Ls (v :: .ref a :: rest)) rfl rfl hd
  exact (k T' h' X' e' W (F.same W) (E.wr W)).via st'
theorem o_getstatic (X : Stand p l e R s m args below meth c T locs cells slots) (hx : p.tables.exec = Jvm.exec) (hZ : Z.Warmed39 s.vm) {own R0 O nm d host : String} {index : Nat} (hown : s.vm.findClass own = some m.cls) (w : (Jvm.Cond.fieldLink own index R0 nm d).before a0 Z = true ∨ (Jvm.Cond.fieldLinkNest own index R0 nm d host).before a0 Z = true) (via : Via Z R0 O nm d) (eT : T.heap = h) {v : Value} (F : Sta Z h O nm d v)
    (hd : decode c.code pc = .ok (.getstatic index, 3)) (hn : pc + 3 = n) (k : ∀ T', Stand p l e R s m args below meth c T' locs cells slots → T'.heap = h → Goes p e below s Q K N (T'.setTop (mkF m n Ls (v :: st)))) : Goes p e below s Q K N (T.setTop (mkF m pc Ls st)) := by
  subst hn
  obtain ⟨T', X', e', st'⟩ := getS2 X hx hZ hown w via eT F (g := mkF m pc Ls st) rfl hd
  exact (k T' X' e').via st'
theorem o_new (X : Stand p l e R s m args below meth c T locs cells slots) (hx : p.tables.exec = Jvm.exec) (hZ : Z.Warmed39 s.vm) {own C : String} {index kk : Nat} (hown : s.vm.findClass own = some m.cls) (w : (Jvm.Cond.classLink own index C).before a0 Z = true) (wi : (Jvm.Cond.instantiable C kk).before a0 Z = true) (wz : (Jvm.Cond.initialized C).before a0 Z = true) (eT : T.heap = h)
    (hd : decode c.code pc = .ok (.new index, 3)) (hc : cells + 1 ≤ R.cells) (hs : slots + kk ≤ R.slots) (hn : pc + 3 = n)
    (k : ∀ T' h' a, Stand p l e R s m args below meth c T' locs (cells + 1) (slots + kk) → T'.heap = h' → a = h.size → Ext h h' → Exa Z h' a C → (∀ {O nm d : String} {ty : FieldType}, Laid Z a0 C O nm d → parseFieldDescriptor d = some ty → Fld Z h' a O nm d (defaultValue ty)) → Goes p e below s Q K N (T'.setTop (mkF m n Ls (.ref a :: st)))) : Goes p e below s Q K N (T.setTop (mkF m pc Ls st)) := by
  subst hn
  obtain ⟨T', h', X', e', E, A, D, -, st'⟩ := newO X hx hZ hown w wi wz eT (g := mkF m pc Ls st) rfl hd hc hs
  exact (k T' h' _ X' e' rfl E A D).via st'
theorem o_newarray (X : Stand p l e R s m args below meth c T locs cells slots) (hx : p.tables.exec = Jvm.exec) (hZ : Z.Warmed39 s.vm) {aty : ArrayType} (w : (Jvm.Cond.arrayClass (newarray.typeOf aty)).before a0 Z = true) (eT : T.heap = h) {z : Int32} (hd : decode c.code pc = .ok (.newarray aty, 2)) (hz : ¬ z < 0) (cap : Nat) (hcap : z.toNatClampNeg ≤ cap) (hb : cap * 8 ≤ 536870912) (hc : cells + 1 ≤ R.cells) (hs : slots + cap ≤ R.slots) (hn : pc + 2 = n)
    (k : ∀ T' h' a cA, Stand p l e R s m args below meth c T' locs (cells + 1) (slots + cap) → T'.heap = h' → a = h.size → Ext h h' → Arv Z h' a cA (newarray.typeOf aty) z [] (defaultValue (newarray.typeOf aty)) → Goes p e below s Q K N (T'.setTop (mkF m n Ls (.ref a :: rest)))) : Goes p e below s Q K N (T.setTop (mkF m pc Ls (.int z :: rest))) := by
  subst hn
  obtain ⟨T', h', cA, X', e', E, A, st'⟩ := newP X hx hZ w eT (g := mkF m pc Ls (.int z :: rest)) rfl hd rfl hz hcap hb hc hs
  exact (k T' h' _ cA X' e' rfl E (Arv.new A hz)).via st'
theorem o_arraylength (X : Stand p l e R s m args below meth c T locs cells slots) (hx : p.tables.exec = Jvm.exec) (hZ : Z.Warmed39 s.vm) (eT : T.heap = h) {a : Addr} {k : ClassId} {ty : FieldType} {z : Int32} {vs : List Value} {dv : Value} (V : Arv Z h a k ty z vs dv) (hd : decode c.code pc = .ok (.arraylength, 1)) (hn : pc + 1 = n) (g : Goes p e below s Q K N (T.setTop (mkF m n Ls (.int z :: rest)))) : Goes p e below s Q K N (T.setTop (mkF m pc Ls (.ref a :: rest))) := by
  subst hn
  obtain ⟨cl, A, -, S, M, -, -⟩ := V
  refine g.via fun t k => X.arraylength hx (by rw [eT]; exact A.1) (State.isArrayOf_alike hZ.alike A.2.1) (g := mkF m pc Ls (.ref a :: rest)) rfl rfl hd t ?_
  rw [len_of S M]; exact k
theorem o_iaload (X : Stand p l e R s m args below meth c T locs cells slots) (hx : p.tables.exec = Jvm.exec) (hZ : Z.Warmed39 s.vm) (eT : T.heap = h) {a : Addr} {k : ClassId} {z j : Int32} {vs : List Value} {dv v : Value} (V : Arv Z h a k .int z vs dv) (i : Nat) (hi : j.toNatClampNeg = i) (hj : ¬ j < 0 ∧ j < z) (hv : vs.getD i dv = v) (hd : decode c.code pc = .ok (.iaload, 1)) (hn : pc + 1 = n) (g : Goes p e below s Q K N (T.setTop (mkF m n Ls (v :: rest)))) : Goes p e below s Q K N (T.setTop (mkF m pc Ls (.int j :: .ref a :: rest))) := by
  subst hn hi
  obtain ⟨cl, A, -, S, M, H, -⟩ := V
  exact g.via fun t k => X.iaload hx (by rw [eT]; exact A.1) (State.isArrayOf_alike hZ.alike A.2.1) A.2.2 (inb_of S hj) (Has.at H (inb_of S hj) hv) (g := mkF m pc Ls (.int j :: .ref a :: rest)) rfl rfl hd t k
theorem o_laload (X : Stand p l e R s m args below meth c T locs cells slots) (hx : p.tables.exec = Jvm.exec) (hZ : Z.Warmed39 s.vm) (eT : T.heap = h) {a : Addr} {k : ClassId} {z j : Int32} {vs : List Value} {dv v : Value} (V : Arv Z h a k .long z vs dv) (i : Nat) (hi : j.toNatClampNeg = i) (hj : ¬ j < 0 ∧ j < z) (hv : vs.getD i dv = v) (hd : decode c.code pc = .ok (.laload, 1)) (hn : pc + 1 = n) (g : Goes p e below s Q K N (T.setTop (mkF m n Ls (v :: rest)))) : Goes p e below s Q K N (T.setTop (mkF m pc Ls (.int j :: .ref a :: rest))) := by
  subst hn hi
  obtain ⟨cl, A, -, S, M, H, -⟩ := V
  exact g.via fun t k => X.laload hx (by rw [eT]; exact A.1) (State.isArrayOf_alike hZ.alike A.2.1) A.2.2 (inb_of S hj) (Has.at H (inb_of S hj) hv) (g := mkF m pc Ls (.int j :: .ref a :: rest)) rfl rfl hd t k
theorem o_baload (X : Stand p l e R s m args below meth c T locs cells slots) (hx : p.tables.exec = Jvm.exec) (hZ : Z.Warmed39 s.vm) (eT : T.heap = h) {a : Addr} {k : ClassId} {z j : Int32} {vs : List Value} {dv v : Value} (V : Arv Z h a k .byte z vs dv) (i : Nat) (hi : j.toNatClampNeg = i) (hj : ¬ j < 0 ∧ j < z) (hv : vs.getD i dv = v) (hd : decode c.code pc = .ok (.baload, 1)) (hn : pc + 1 = n) (g : Goes p e below s Q K N (T.setTop (mkF m n Ls (v :: rest)))) : Goes p e below s Q K N (T.setTop (mkF m pc Ls (.int j :: .ref a :: rest))) := by
  subst hn hi
  obtain ⟨cl, A, -, S, M, H, -⟩ := V
  exact g.via fun t k => X.baloadBytes hx (by rw [eT]; exact A.1) (State.isArrayOf_alike hZ.alike A.2.1) A.2.2 (inb_of S hj) (Has.at H (inb_of S hj) hv) (g := mkF m pc Ls (.int j :: .ref a :: rest)) rfl rfl hd t k
theorem o_baloadZ (X : Stand p l e R s m args below meth c T locs cells slots) (hx : p.tables.exec = Jvm.exec) (hZ : Z.Warmed39 s.vm) (eT : T.heap = h) {a : Addr} {k : ClassId} {z j : Int32} {vs : List Value} {dv v : Value} (V : Arv Z h a k .boolean z vs dv) (i : Nat) (hi : j.toNatClampNeg = i) (hj : ¬ j < 0 ∧ j < z) (hv : vs.getD i dv = v) (hd : decode c.code pc = .ok (.baload, 1)) (hn : pc + 1 = n) (g : Goes p e below s Q K N (T.setTop (mkF m n Ls (v :: rest)))) : Goes p e below s Q K N (T.setTop (mkF m pc Ls (.int j :: .ref a :: rest))) := by
  subst hn hi
  obtain ⟨cl, A, -, S, M, H, -⟩ := V
  exact g.via fun t k => X.baloadBooleans hx (by rw [eT]; exact A.1) (State.isArrayOf_alike hZ.alike A.2.1) A.2.2 (inb_of S hj) (Has.at H (inb_of S hj) hv) (g := mkF m pc Ls (.int j :: .ref a :: rest)) rfl rfl hd t k
theorem o_aaload (X : Stand p l e R s m args below meth c T locs cells slots) (hx : p.tables.exec = Jvm.exec) (hZ : Z.Warmed39 s.vm) (eT : T.heap = h) {a : Addr} {k : ClassId} {ty : FieldType} {z j : Int32} {vs : List Value} {dv v : Value} (V : Arv Z h a k ty z vs dv) (hty : ty.isReference = true) (i : Nat) (hi : j.toNatClampNeg = i) (hj : ¬ j < 0 ∧ j < z) (hv : vs.getD i dv = v) (hd : decode c.code pc = .ok (.aaload, 1)) (hn : pc + 1 = n) (g : Goes p e below s Q K N (T.setTop (mkF m n Ls (v :: rest)))) : Goes p e below s Q K N (T.setTop (mkF m pc Ls (.int j :: .ref a :: rest))) := by
  subst hn hi
  obtain ⟨cl, A, -, S, M, H, -⟩ := V
  exact g.via fun t k => X.aaload hx (by rw [eT]; exact A.1) (State.isArrayOf_alike hZ.alike A.2.1) hty A.2.2 (inb_of S hj) (Has.at H (inb_of S hj) hv) (g := mkF m pc Ls (.int j :: .ref a :: rest)) rfl rfl hd t k
theorem o_iastore (X : Stand p l e R s m args below meth c T locs cells slots) (hx : p.tables.exec = Jvm.exec) (hZ : Z.Warmed39 s.vm) (eT : T.heap = h) {a : Addr} {k : ClassId} {z j : Int32} {x : Int32} {vs vs' : List Value} {dv w : Value} (V : Arv Z h a k .int z vs dv) (i : Nat) (hi : j.toNatClampNeg = i) (hj : ¬ j < 0 ∧ j < z) (hlen : i < vs.length) (hw : (.int x) = w) (hvs : vs.set i w = vs') (hd : decode c.code pc = .ok (.iastore, 1)) (hn : pc + 1 = n)
    (g : ∀ T' h', Stand p l e R s m args below meth c T' (locs ++ [⟨a, j.toNatClampNeg⟩]) cells slots → T'.heap = h' → Wr h h' a j.toNatClampNeg w → Arv Z h' a k .int z vs' dv → Goes p e below s Q K N (T'.setTop (mkF m n Ls rest))) : Goes p e below s Q K N (T.setTop (mkF m pc Ls (.int x :: .int j :: .ref a :: rest))) := by
  subst hn hvs hw
  obtain ⟨cl, A, q1, S, M, H, G⟩ := V
  obtain ⟨T', h', X', e', W, st'⟩ := stI X hx hZ eT A (j := j) (inb_of S hj) (g := mkF m pc Ls (.int x :: .int j :: .ref a :: rest)) rfl rfl hd
  exact (g T' h' X' e' W (Arv.set A q1 S M H G rfl W i hi hlen)).via st'
theorem o_lastore (X : Stand p l e R s m args below meth c T locs cells slots) (hx : p.tables.exec = Jvm.exec) (hZ : Z.Warmed39 s.vm) (eT : T.heap = h) {a : Addr} {k : ClassId} {z j : Int32} {x : Int64} {vs vs' : List Value} {dv w : Value} (V : Arv Z h a k .long z vs dv) (i : Nat) (hi : j.toNatClampNeg = i) (hj : ¬ j < 0 ∧ j < z) (hlen : i < vs.length) (hw : (.long x) = w) (hvs : vs.set i w = vs') (hd : decode c.code pc = .ok (.lastore, 1)) (hn : pc + 1 = n)
    (g : ∀ T' h', Stand p l e R s m args below meth c T' (locs ++ [⟨a, j.toNatClampNeg⟩]) cells slots → T'.heap = h' → Wr h h' a j.toNatClampNeg w → Arv Z h' a k .long z vs' dv → Goes p e below s Q K N (T'.setTop (mkF m n Ls rest))) : Goes p e below s Q K N (T.setTop (mkF m pc Ls (.long x :: .int j :: .ref a :: rest))) := by
  subst hn hvs hw
  obtain ⟨cl, A, q1, S, M, H, G⟩ := V
  obtain ⟨T', h', X', e', W, st'⟩ := stJ X hx hZ eT A (j := j) (inb_of S hj) (g := mkF m pc Ls (.long x :: .int j :: .ref a :: rest)) rfl rfl hd
  exact (g T' h' X' e' W (Arv.set A q1 S M H G rfl W i hi hlen)).via st'
theorem o_bastore (X : Stand p l e R s m args below meth c T locs cells slots) (hx : p.tables.exec = Jvm.exec) (hZ : Z.Warmed39 s.vm) (eT : T.heap = h) {a : Addr} {k : ClassId} {z j : Int32} {x : Int32} {vs vs' : List Value} {dv w : Value} (V : Arv Z h a k .byte z vs dv) (i : Nat) (hi : j.toNatClampNeg = i) (hj : ¬ j < 0 ∧ j < z) (hlen : i < vs.length) (hw : (.int (nar .byte x)) = w) (hvs : vs.set i w = vs') (hd : decode c.code pc = .ok (.bastore, 1)) (hn : pc + 1 = n)
    (g : ∀ T' h', Stand p l e R s m args below meth c T' (locs ++ [⟨a, j.toNatClampNeg⟩]) cells slots → T'.heap = h' → Wr h h' a j.toNatClampNeg w → Arv Z h' a k .byte z vs' dv → Goes p e below s Q K N (T'.setTop (mkF m n Ls rest))) : Goes p e below s Q K N (T.setTop (mkF m pc Ls (.int x :: .int j :: .ref a :: rest))) := by
  subst hn hvs hw
  obtain ⟨cl, A, q1, S, M, H, G⟩ := V
  obtain ⟨T', h', X', e', W, st'⟩ := stB X hx hZ eT A (j := j) (inb_of S hj) (g := mkF m pc Ls (.int x :: .int j :: .ref a :: rest)) rfl rfl hd
  exact (g T' h' X' e' W (Arv.set A q1 S M H G (fits_nar_byte x) W i hi hlen)).via st'
theorem o_bastoreZ (X : Stand p l e R s m args below meth c T locs cells slots) (hx : p.tables.exec = Jvm.exec) (hZ : Z.Warmed39 s.vm) (eT : T.heap = h) {a : Addr} {k : ClassId} {z j : Int32} {x : Int32} {vs vs' : List Value} {dv w : Value} (V : Arv Z h a k .boolean z vs dv) (i : Nat) (hi : j.toNatClampNeg = i) (hj : ¬ j < 0 ∧ j < z) (hlen : i < vs.length) (hw : (.int (nar .boolean x)) = w) (hvs : vs.set i w = vs') (hd : decode c.code pc = .ok (.bastore, 1)) (hn : pc + 1 = n)
    (g : ∀ T' h', Stand p l e R s m args below meth c T' (locs ++ [⟨a, j.toNatClampNeg⟩]) cells slots → T'.heap = h' → Wr h h' a j.toNatClampNeg w → Arv Z h' a k .boolean z vs' dv → Goes p e below s Q K N (T'.setTop (mkF m n Ls rest))) : Goes p e below s Q K N (T.setTop (mkF m pc Ls (.int x :: .int j :: .ref a :: rest))) := by
  subst hn hvs hw
  obtain ⟨cl, A, q1, S, M, H, G⟩ := V
  obtain ⟨T', h', X', e', W, st'⟩ := stZ X hx hZ eT A (j := j) (inb_of S hj) (g := mkF m pc Ls (.int x :: .int j :: .ref a :: rest)) rfl rfl hd
  exact (g T' h' X' e' W (Arv.set A q1 S M H G (fits_nar_bool x) W i hi hlen)).via st'

/-! calls -/
theorem o_initO (X : Stand p l e R s m args below meth c T locs cells slots) (hx : p.tables.exec = Jvm.exec) (hZ : Z.Warmed39 s.vm) {own : String} {idx : Nat} (hown : s.vm.findClass own = some m.cls) (w1 : (Jvm.Cond.methodLink own idx Lib.objectInit).before a0 Z = true) (w2 : (Jvm.Cond.instanceMethod Lib.objectInit).before a0 Z = true) (w3 : (Jvm.Cond.code Lib.objectInit ⟨#[0xb1]⟩ 1 none).before a0 Z = true) (eT : T.heap = h) (hsize : Ls.size = c.maxLocals) {a : Addr} (hd : decode c.code pc = .ok (.invokespecial idx, 3)) (hf : 1 ≤ R.frames) (W : Nat) (hW : (rest.map fun v => v.category).sum ≤ W) (hl : W + 12 ≤ R.locals) (hn : pc + 3 = n)
    (k : ∀ T', Stand p l e R s m args below meth c T' locs cells slots → T'.heap = h → Goes p e below s Q K N (T'.setTop (mkF m n Ls rest))) : Goes p e below s Q K N (T.setTop (mkF m pc Ls (.ref a :: rest))) := by
  subst hn
  obtain ⟨T', X', e', st'⟩ := initO X hx hZ hown w1 w2 w3 eT (g := mkF m pc Ls (.ref a :: rest)) rfl hsize rfl hd hf (W := W) (by show 2 * 0 + _ ≤ _; omega) hl
  exact (k T' X' e').via st'
theorem o_callS (X : Stand p l e R s m args below meth c T locs cells slots) (hx : p.tables.exec = Jvm.exec) (hZ : Z.Warmed39 s.vm) {own : String} {index : Nat} {y : MethodName} {bytes : ByteArray} {maxL : Nat} {ret : Option FieldType} {rm : Room} (hown : s.vm.findClass own = some m.cls) (w1 : (Jvm.Cond.methodLink own index y).before a0 Z = true) (w2 : (Jvm.Cond.static y).before a0 Z = true) (w3 : (Jvm.Cond.initialized y.cls).before a0 Z = true) (w4 : (Jvm.Cond.code y bytes maxL ret).before a0 Z = true) (hy : y.cls ≠ "java/lang/invoke/MethodHandle" ∧ y.cls ≠ "java/lang/invoke/VarHandle") (eT : T.heap = h)
    {argsL rest : List Value} {Q' : Option Value → Heap → List Loc → Prop} (hM : Does l Z y bytes maxL ret [] rm argsL.toArray h Q') (W : Nat) (hf : rm.frames + 1 ≤ R.frames) (hl : W + (maxL + 11) + rm.locals ≤ R.locals) (hc : cells + rm.cells ≤ R.cells) (hs : slots + rm.slots ≤ R.slots) (hsize : Ls.size = c.maxLocals) (hlen : ∀ sig, parseMethodDescriptor y.desc = some sig → argsL.length = sig.parameters.length) (hst : st = argsL.reverse ++ rest) (hW : (rest.map fun v => v.category).sum ≤ W) (hd : decode c.code pc = .ok (.invokestatic index, 3)) (hn : pc + 3 = n)
    (k : ∀ v T' L', Stand p l e R s m args below meth c T' (locs ++ L') (cells + rm.cells) (slots + rm.slots) → Q' v T'.heap L' → Goes p e below s Q K N (T'.setTop (mkF m n Ls (v.toList ++ rest)))) : Goes p e below s Q K N (T.setTop (mkF m pc Ls st)) := by
  subst hn
  obtain ⟨v, _, ⟨T', L, kk, nn⟩, -, X', ⟨Lc, hQ, l', y', z'⟩, st'⟩ := Jvm.LawKit.callS X hx (y := y) hown (mvT hZ w1) (mvT hZ w2) (mvT hZ w3) (mvT hZ w4) hy (backOf (W := W) hM hZ w4 w3 hf hl) (g := mkF m pc Ls st) rfl hsize (argsL := argsL) (rest := rest) hlen hst (by show 2 * 0 + _ ≤ _; omega) hd (fun _ _ => ⟨rfl, eT, hc, hs⟩)
  dsimp only [Pt.U, Pt.locs, Pt.cells, Pt.slots] at X' l' y' z' st' hQ
  subst l' y' z'
  exact (k v T' Lc X' hQ).via st'
theorem o_callN (X : Stand p l e R s m args below meth c T locs cells slots) (hx : p.tables.exec = Jvm.exec) (hZ : Z.Warmed39 s.vm) {own : String} {index : Nat} {y : MethodName} {bytes : ByteArray} {maxL : Nat} {rm : Room} (hy1 : y.name = "<init>") (hown : s.vm.findClass own = some m.cls) (w1 : (Jvm.Cond.methodLink own index y).before a0 Z = true) (w2 : (Jvm.Cond.instanceMethod y).before a0 Z = true) (w3 : (Jvm.Cond.initialized y.cls).before a0 Z = true) (w4 : (Jvm.Cond.code y bytes maxL none).before a0 Z = true) (hy : y.cls ≠ "java/lang/invoke/MethodHandle" ∧ y.cls ≠ "java/lang/invoke/VarHandle") (eT : T.heap = h)
    {a : Addr} {argsL rest : List Value} {Q' : Option Value → Heap → List Loc → Prop} (hM : Does l Z y bytes maxL none [] rm (.ref a :: argsL).toArray h Q') (W : Nat) (hf : rm.frames + 1 ≤ R.frames) (hl : W + (maxL + 11) + rm.locals ≤ R.locals) (hc : cells + rm.cells ≤ R.cells) (hs : slots + rm.slots ≤ R.slots) (hsize : Ls.size = c.maxLocals) (hlen : ∀ sig, parseMethodDescriptor y.desc = some sig → argsL.length = sig.parameters.length) (hst : st = argsL.reverse ++ .ref a :: rest) (hW : (rest.map fun v => v.category).sum ≤ W) (hd : decode c.code pc = .ok (.invokespecial index, 3)) (hn : pc + 3 = n)
    (k : ∀ v T' L', Stand p l e R s m args below meth c T' (locs ++ L') (cells + rm.cells) (slots + rm.slots) → Q' v T'.heap L' → Goes p e below s Q K N (T'.setTop (mkF m n Ls (v.toList ++ rest)))) : Goes p e below s Q K N (T.setTop (mkF m pc Ls st)) := by
  subst hn
  obtain ⟨v, _, ⟨T', L, kk, nn⟩, -, X', ⟨Lc, hQ, l', y', z'⟩, st'⟩ := X.specialBack hx (y := y) hy1 hown (mvT hZ w1) (mvT hZ w2) (mvT hZ w4) hy (backOf (W := W) hM hZ w4 w3 hf hl) (g := mkF m pc Ls st) rfl hsize (Steps.refl _) (a := a) (argsL := argsL) (rest := rest) hlen hst (by show 2 * 0 + _ ≤ _; omega) hd (fun _ _ => ⟨rfl, eT, hc, hs⟩)
  dsimp only [Pt.U, Pt.locs, Pt.cells, Pt.slots] at X' l' y' z' st' hQ
  subst l' y' z'
  exact (k v T' Lc X' hQ).via fun t q => st'.trans q
theorem o_callV (X : Stand p l e R s m args below meth c T locs cells slots) (hx : p.tables.exec = Jvm.exec) (hZ : Z.Warmed39 s.vm) {own C : String} {index : Nat} {y : MethodName} {bytes : ByteArray} {maxL : Nat} {ret : Option FieldType} {rm : Room} (hown : s.vm.findClass own = some m.cls) (w1 : (Jvm.Cond.methodLink own index y).before a0 Z = true) (w2 : (Jvm.Cond.declares y).before a0 Z = true) (w5 : (Jvm.Cond.selects C y y).before a0 Z = true) (w6 : (Jvm.Cond.instanceMethod y).before a0 Z = true) (w3 : (Jvm.Cond.initialized y.cls).before a0 Z = true) (w4 : (Jvm.Cond.code y bytes maxL ret).before a0 Z = true) (hy : y.cls ≠ "java/lang/invoke/MethodHandle" ∧ y.cls ≠ "java/lang/invoke/VarHandle") (eT : T.heap = h)
    {a : Addr} (E : Exa Z h a C) {argsL rest : List Value} {Q' : Option Value → Heap → List Loc → Prop} (hM : Does l Z y bytes maxL ret [] rm (.ref a :: argsL).toArray h Q') (W : Nat) (hf : rm.frames + 1 ≤ R.frames) (hl : W + (maxL + 11) + rm.locals ≤ R.locals) (hc : cells + rm.cells ≤ R.cells) (hs : slots + rm.slots ≤ R.slots) (hsize : Ls.size = c.maxLocals) (hlen : ∀ sig, parseMethodDescriptor y.desc = some sig → argsL.length = sig.parameters.length) (hst : st = argsL.reverse ++ .ref a :: rest) (hW : (rest.map fun v => v.category).sum ≤ W) (hd : decode c.code pc = .ok (.invokevirtual index, 3)) (hn : pc + 3 = n)
    (k : ∀ v T' L', Stand p l e R s m args below meth c T' (locs ++ L') (cells + rm.cells) (slots + rm.slots) → Q' v T'.heap L' → Goes p e below s Q K N (T'.setTop (mkF m n Ls (v.toList ++ rest)))) : Goes p e below s Q K N (T.setTop (mkF m pc Ls st)) := by
  subst hn
  obtain ⟨cq, kq, qa, qb, qc⟩ := isOf hZ eT E
  obtain ⟨v, _, ⟨T', L, kk, nn⟩, -, X', ⟨Lc, hQ, l', y', z'⟩, st'⟩ := X.virtualBack hx (y := y) (z := y) hown (mvT hZ w1) (mvT hZ w2) (notFace_of_selects (args := #[]) (mvT hZ w5)) (mvT hZ w5) (mvT hZ w6) hy (backOf (W := W) hM hZ w4 w3 hf hl) qa qc (g := mkF m pc Ls st) rfl hsize (Steps.refl _) (argsL := argsL) (rest := rest) hlen hst (by show 2 * 0 + _ ≤ _; omega) hd (fun _ _ => ⟨rfl, eT, hc, hs⟩)
  dsimp only [Pt.U, Pt.locs, Pt.cells, Pt.slots] at X' l' y' z' st' hQ
  subst l' y' z'
  exact (k v T' Lc X' hQ).via fun t q => st'.trans q
/-- a private method is the one that is selected -/
theorem o_selpriv {y : MethodName} {kk : Nat} (hy : y.cls ≠ "java/lang/invoke/MethodHandle" ∧ y.cls ≠ "java/lang/invoke/VarHandle") (hins : (Jvm.Cond.instantiable y.cls kk).before args s = true) (hpriv : (Jvm.Cond.privateMethod y).before args s = true) (hinst : (Jvm.Cond.instanceMethod y).before args s = true) : (Jvm.Cond.selects y.cls y y).before args s = true := by
  obtain ⟨c, k, hc, hk, -, hniab, -, -⟩ := Cond.instantiable_spec hins
  have hni : k.isInterface = false := (Bool.or_eq_false_iff.mp hniab).1
  obtain ⟨mk, methM, hnamed, hmethM, -, -⟩ := Cond.instanceMethod_spec hinst
  have hfound : s.methodFound? y.cls y.name y.desc = some mk := State.methodFound?_of_named hnamed hy
  have hcls : mk.cls = c := Option.some.inj ((findClass_of_methodNamed hnamed).symm.trans hc)
  have hsel : selectMethod {} s.vm c mk = .method mk := selectMethod_private hmethM (Cond.privateMethod_at hpriv mk methM hnamed hmethM)
  simp only [Cond.before, Cond.holds, Cond.value, hc, hfound, hnamed, hsel, hcls, hk]
  simp; exact hni
theorem o_callP (X : Stand p l e R s m args below meth c T locs cells slots) (hx : p.tables.exec = Jvm.exec) (hZ : Z.Warmed39 s.vm) {own C : String} {index kk : Nat} {y : MethodName} {bytes : ByteArray} {maxL : Nat} {ret : Option FieldType} {rm : Room} (hown : s.vm.findClass own = some m.cls) (w1 : (Jvm.Cond.methodLink own index y).before a0 Z = true) (w6 : (Jvm.Cond.instanceMethod y).before a0 Z = true) (w5 : (Jvm.Cond.privateMethod y).before a0 Z = true) (wi : (Jvm.Cond.instantiable y.cls kk).before a0 Z = true) (w3 : (Jvm.Cond.initialized y.cls).before a0 Z = true) (w4 : (Jvm.Cond.code y bytes maxL ret).before a0 Z = true) (hy : y.cls ≠ "java/lang/invoke/MethodHandle" ∧ y.cls ≠ "java/lang/invoke/VarHandle") (eT : T.heap = h)
    {a : Addr} (E : Exa Z h a C) {argsL rest : List Value} {Q' : Option Value → Heap → List Loc → Prop} (hM : Does l Z y bytes maxL ret [] rm (.ref a :: argsL).toArray h Q') (W : Nat) (hf : rm.frames + 1 ≤ R.frames) (hl : W + (maxL + 11) + rm.locals ≤ R.locals) (hc : cells + rm.cells ≤ R.cells) (hs : slots + rm.slots ≤ R.slots) (hsize : Ls.size = c.maxLocals) (hlen : ∀ sig, parseMethodDescriptor y.desc = some sig → argsL.length = sig.parameters.length) (hst : st = argsL.reverse ++ .ref a :: rest) (hW : (rest.map fun v => v.category).sum ≤ W) (hd : decode c.code pc = .ok (.invokevirtual index, 3)) (hn : pc + 3 = n)
    (k : ∀ v T' L', Stand p l e R s m args below meth c T' (locs ++ L') (cells + rm.cells) (slots + rm.slots) → Q' v T'.heap L' → Goes p e below s Q K N (T'.setTop (mkF m n Ls (v.toList ++ rest)))) : Goes p e below s Q K N (T.setTop (mkF m pc Ls st)) := by
  subst hn
  obtain ⟨cl, hcl, hob⟩ := E.cell
  obtain ⟨v, _, ⟨T', L, kk, nn⟩, -, X', ⟨Lc, hQ, l', y', z'⟩, st'⟩ := X.privateBack hx (y := y) hown (mvT hZ w1) (mvT hZ w6) (o_selpriv hy (mvT hZ wi) (mvP hZ w5) (mvT hZ w6)) (Cond.privateMethod_at (mvP hZ w5 (args := #[]))) (mvT hZ w4) hy (backOf (W := W) hM hZ w4 w3 hf hl) (g := mkF m pc Ls st) rfl hsize (Steps.refl _) (a := a) (by rw [eT]; exact hcl) hob (argsL := argsL) (rest := rest) hlen hst (by show 2 * 0 + _ ≤ _; omega) hd (fun _ _ => ⟨rfl, eT, hc, hs⟩)
  dsimp only [Pt.U, Pt.locs, Pt.cells, Pt.slots] at X' l' y' z' st' hQ
  subst l' y' z'
  exact (k v T' Lc X' hQ).via fun t q => st'.trans q
/-! returns -/
theorem o_retW (X : Stand p l e R s m args below meth c T locs cells slots) (hx : p.tables.exec = Jvm.exec) {t : FieldType} {w : Value} {i : Instr} (hret : meth.sig.returnType = some t) (hlk : meth.locks = false) (hnw : narrow t w = w)
    (hi : (i = .ireturn ∧ (t = .int ∨ t = .boolean ∨ t = .byte ∨ t = .char ∨ t = .short) ∧ ∃ z, w = .int z) ∨ (i = .lreturn ∧ t = .long ∧ ∃ z, w = .long z) ∨ (i = .dreturn ∧ t = .double ∧ ∃ z, w = .double z) ∨ (i = .freturn ∧ t = .float ∧ ∃ z, w = .float z) ∨ (i = .areturn ∧ t.isReference = true ∧ w.isRef = true))
    (hd : decode c.code pc = .ok (i, 1)) (hc : cells ≤ K) (hs : slots ≤ N) (eT : T.heap = h) (hQ : Q (some w) h locs) : Goes p e below s Q K N (T.setTop (mkF m pc Ls (w :: rest))) := by
  subst eT
  obtain ⟨fs, hr, hrun, hended, hW, hsame⟩ := X.leave (v := some w) (fun q => by rw [hret] at q; cases q) hlk
  exact ⟨_, _, retOut X hx hret hnw hi hd hr, hrun, hended, _, _, rfl, hQ, ⟨_, rfl⟩, hW, hsame.mono hc hs⟩
theorem o_ireturn (X : Stand p l e R s m args below meth c T locs cells slots) (hx : p.tables.exec = Jvm.exec) {x : Int32} (hret : meth.sig.returnType = some .int) (hlk : meth.locks = false) (hd : decode c.code pc = .ok (.ireturn, 1)) (hc : cells ≤ K) (hs : slots ≤ N) (eT : T.heap = h) (hQ : Q (some (.int x)) h locs) : Goes p e below s Q K N (T.setTop (mkF m pc Ls (.int x :: rest))) := o_retW X hx hret hlk rfl (Or.inl ⟨rfl, Or.inl rfl, x, rfl⟩) hd hc hs eT hQ
theorem o_lreturn (X : Stand p l e R s m args below meth c T locs cells slots) (hx : p.tables.exec = Jvm.exec) {x : Int64} (hret : meth.sig.returnType = some .long) (hlk : meth.locks = false) (hd : decode c.code pc = .ok (.lreturn, 1)) (hc : cells ≤ K) (hs : slots ≤ N) (eT : T.heap = h) (hQ : Q (some (.long x)) h locs) : Goes p e below s Q K N (T.setTop (mkF m pc Ls (.long x :: rest))) := o_retW X hx hret hlk rfl (Or.inr (Or.inl ⟨rfl, rfl, x, rfl⟩)) hd hc hs eT hQ
theorem o_areturn (X : Stand p l e R s m args below meth c T locs cells slots) (hx : p.tables.exec = Jvm.exec) {t : FieldType} {w : Value} (hret : meth.sig.returnType = some t) (hlk : meth.locks = false) (ht : t.isReference = true) (hw : w.isRef = true) (hd : decode c.code pc = .ok (.areturn, 1)) (hc : cells ≤ K) (hs : slots ≤ N) (eT : T.heap = h) (hQ : Q (some w) h locs) : Goes p e below s Q K N (T.setTop (mkF m pc Ls (w :: rest))) := o_retW X hx hret hlk (by cases t <;> first | rfl | cases ht) (Or.inr (Or.inr (Or.inr (Or.inr ⟨rfl, ht, hw⟩)))) hd hc hs eT hQ
/-- a boolean, byte, char or short: narrowed -/
theorem o_nreturn (X : Stand p l e R s m args below meth c T locs cells slots) (hx : p.tables.exec = Jvm.exec) {t : FieldType} {x : Int32} (hret : meth.sig.returnType = some t) (hlk : meth.locks = false) (ht : t = .boolean ∨ t = .byte ∨ t = .char ∨ t = .short) (hd : decode c.code pc = .ok (.ireturn, 1)) (hc : cells ≤ K) (hs : slots ≤ N) (eT : T.heap = h) (hQ : Q (some (.int (nar t x))) h locs) : Goes p e below s Q K N (T.setTop (mkF m pc Ls (.int x :: rest))) := by
  subst eT
  obtain ⟨fs, hr, hrun, hended, hW, hsame⟩ := X.leave (v := some (.int (nar t x))) (fun q => by rw [hret] at q; cases q) hlk
  exact ⟨_, _, retN X hx hret ht hd hr, hrun, hended, _, _, rfl, hQ, ⟨_, rfl⟩, hW, hsame.mono hc hs⟩
theorem o_return (X : Stand p l e R s m args below meth c T locs cells slots) (hx : p.tables.exec = Jvm.exec) (hret : meth.sig.returnType = none) (hlk : meth.locks = false) (hd : decode c.code pc = .ok (.return_, 1)) (hc : cells ≤ K) (hs : slots ≤ N) (eT : T.heap = h) (hQ : Q none h locs) : Goes p e below s Q K N (T.setTop (mkF m pc Ls [])) := by
  subst eT
  obtain ⟨fs, hr, hrun, hended, hW, hsame⟩ := X.leave (v := none) (fun _ => rfl) hlk
  exact ⟨_, _, X.returnOut hx hret hd hr, hrun, hended, _, _, rfl, hQ, ⟨_, rfl⟩, hW, hsame.mono hc hs⟩
/-- what a call that writes nothing promises -/
def Pur (h0 : Heap) (w : Value) (v : Option Value) (h : Heap) (L : List Loc) : Prop := v = some w ∧ h = h0 ∧ L = []
end Layer

theorem o_nz1 : nar .boolean (1 : Int32) = 1 := by decide
theorem o_nz0 : nar .boolean (0 : Int32) = 0 := by decide
theorem o_nar8 (x : Int32) : nar .byte x.toInt8.toInt32 = x.toInt8.toInt32 := by simp [nar]

theorem o_n5 (x : Int32) : (x &&& 7) % 5 = 0 ∨ (x &&& 7) % 5 = 1 ∨ (x &&& 7) % 5 = 2 ∨ (x &&& 7) % 5 = 3 ∨ (x &&& 7) % 5 = 4 := by
  have a := c_mask x 7 3 (by decide) (by decide)
  have b : 0 ≤ x.toInt % (2 ^ 3 : Nat) := Int.emod_nonneg _ (by decide)
  have d := (c_irem (x &&& 7) 5 5 rfl).1 (by rw [a]; exact b)
  have e0 : (0 : Int32).toInt = 0 := rfl
  have e1 : (1 : Int32).toInt = 1 := rfl
  have e2 : (2 : Int32).toInt = 2 := rfl
  have e3 : (3 : Int32).toInt = 3 := rfl
  have e4 : (4 : Int32).toInt = 4 := rfl
  simp only [← Int32.toInt_inj]
  omega
theorem o_b255 (x : Int32) : x.toInt8.toInt32 &&& 255 = x &&& 255 := by
  apply Int32.toInt_inj.mp
  have a := c_mask x 255 8 (by decide) (by decide)
  have b := c_mask x.toInt8.toInt32 255 8 (by decide) (by decide)
  have d := (c_i2b x).1
  omega

theorem d_prog_3_method_1_code_0 : decode prog_3_method_1_code 0 = .ok (.aload_n 0, 1) := by decide +kernel
theorem d_prog_3_method_1_code_1 : decode prog_3_method_1_code 1 = .ok (.invokespecial 1, 3) := by decide +kernel
theorem d_prog_3_method_1_code_4 : decode prog_3_method_1_code 4 = .ok (.aload_n 0, 1) := by decide +kernel
theorem d_prog_3_method_1_code_5 : decode prog_3_method_1_code 5 = .ok (.aload_n 1, 1) := by decide +kernel
theorem d_prog_3_method_1_code_6 : decode prog_3_method_1_code 6 = .ok (.putfield 7, 3) := by decide +kernel
theorem d_prog_3_method_1_code_9 : decode prog_3_method_1_code 9 = .ok (.aload_n 0, 1) := by decide +kernel
theorem d_prog_3_method_1_code_10 : decode prog_3_method_1_code 10 = .ok (.iload_n 3, 1) := by decide +kernel
theorem d_prog_3_method_1_code_11 : decode prog_3_method_1_code 11 = .ok (.putfield 13, 3) := by decide +kernel
theorem d_prog_3_method_1_code_14 : decode prog_3_method_1_code 14 = .ok (.aload_n 0, 1) := by decide +kernel
theorem d_prog_3_method_1_code_15 : decode prog_3_method_1_code 15 = .ok (.iload 4, 2) := by decide +kernel
theorem d_prog_3_method_1_code_17 : decode prog_3_method_1_code 17 = .ok (.putfield 17, 3) := by decide +kernel
theorem d_prog_3_method_1_code_20 : decode prog_3_method_1_code 20 = .ok (.aload_n 0, 1) := by decide +kernel
theorem d_prog_3_method_1_code_21 : decode prog_3_method_1_code 21 = .ok (.iload_n 2, 1) := by decide +kernel
theorem d_prog_3_method_1_code_22 : decode prog_3_method_1_code 22 = .ok (.putfield 20, 3) := by decide +kernel
theorem d_prog_3_method_1_code_25 : decode prog_3_method_1_code 25 = .ok (.return_, 1) := by decide +kernel
theorem o_ef1 (m : MethodId) (a1 : Addr) (a2 : Addr) (p0 : Int32) (p1 : Int32) (p2 : Int32) : entryFrame m #[(.ref a1), (.ref a2), (.int p0), (.int p1), (.int p2)] 5 = mkF m 0 #[.val (.ref a1), .val (.ref a2), .val (.int p0), .val (.int p1), .val (.int p2)] [] := by first | (simp [entryFrame, mkF, argsToLocals, Value.category]; done) | rfl
theorem o_pn0 : plainName "com/example/codicil/codicil/BlobReader" = true := by first | (simp [plainName, overriddenIn]; done) | decide +kernel
set_option maxRecDepth 65536 in
set_option maxHeartbeats 40000000 in
theorem c_init (l : Launch) (Z : State) (a0 : Array Value) (hw : ∀ d ∈ tables_1, d.before a0 Z = true) (a1 : Addr) (a2 : Addr) (p0 : Int32) (p1 : Int32) (p2 : Int32) (h0 : Heap) (n0 : Nat) (Z0 : n0 ≤ h0.size) (pg_a1 : n0 ≤ a1) (pE_a1 : Exa Z h0 a1 "com/example/codicil/codicil/BlobReader") (pF_a1_bytes : Fld Z h0 a1 "com/example/codicil/codicil/BlobReader" "bytes" "[B" .null) (pF_a1_end : Fld Z h0 a1 "com/example/codicil/codicil/BlobReader" "end" "I" (.int (0 : Int32))) (pF_a1_kind : Fld Z h0 a1 "com/example/codicil/codicil/BlobReader" "kind" "I" (.int (0 : Int32))) (pF_a1_position : Fld Z h0 a1 "com/example/codicil/codicil/BlobReader" "position" "I" (.int (0 : Int32))) :
    Does l Z (⟨"com/example/codicil/codicil/BlobReader", "<init>", "([BIII)V"⟩ : MethodName) prog_3_method_1_code 5 none [] ({ frames := 1, cells := 0, slots := 0, locals := 12 } : Room) #[(.ref a1), (.ref a2), (.int p0), (.int p1), (.int p2)] h0 (fun v h L => v = none ∧ Fr n0 L ∧ Keep h0 h [a1] ∧ Exa Z h a1 "com/example/codicil/codicil/BlobReader" ∧ Fld Z h a1 "com/example/codicil/codicil/BlobReader" "bytes" "[B" (.ref a2) ∧ Fld Z h a1 "com/example/codicil/codicil/BlobReader" "end" "I" (.int p1) ∧ Fld Z h a1 "com/example/codicil/codicil/BlobReader" "kind" "I" (.int p2) ∧ Fld Z h a1 "com/example/codicil/codicil/BlobReader" "position" "I" (.int p0)) := by
  refine Does.of (plainFor_of_name o_pn0) ?_
  intro p e s m below meth c T0 hx hby hml hown hnm hret hlk hZ X0 e0
  have hown : s.vm.findClass "com/example/codicil/codicil/BlobReader" = some m.cls := hown
  have hml : c.maxLocals = 5 := hml
  have hret : meth.sig.returnType = none := hret
  refine o_entry (o_ef1 m a1 a2 p0 p1 p2) ?_
  have N0 := Fr.nil n0
  refine o_aloadN X0 hx (hb hby d_prog_3_method_1_code_0) (v := (.ref a1)) rfl rfl (n := 1) rfl ?_
  refine o_initO X0 hx hZ hown (hw _ (List.mem_of_getElem? (i := 10) rfl)) (hw _ (List.mem_of_getElem? (i := 11) rfl)) (hw _ (List.mem_of_getElem? (i := 12) rfl)) e0 (by rw [hml]; rfl) (hb hby d_prog_3_method_1_code_1) (by decide) 0 (Nat.le_of_eq rfl) (by decide) (n := 4) rfl ?_
  intro T1 X1 e1
  refine o_aloadN X1 hx (hb hby d_prog_3_method_1_code_4) (v := (.ref a1)) rfl rfl (n := 5) rfl ?_
  refine o_aloadN X1 hx (hb hby d_prog_3_method_1_code_5) (v := (.ref a2)) rfl rfl (n := 6) rfl ?_
  refine o_putfield X1 hx hZ hown (host := "") (Or.inl (hw _ (List.mem_of_getElem? (i := 13) rfl))) Via.refl e1 pF_a1_bytes pE_a1 (Or.inr ⟨(hw _ (List.mem_of_getElem? (i := 14) rfl)), rfl, hnm⟩) (hw _ (List.mem_of_getElem? (i := 6) rfl)) (ty := (.array .byte)) (by decide) rfl rfl (hb hby d_prog_3_method_1_code_6) (n := 9) rfl ?_
  intro T2 h2 X2 e2 W2 F2 E_2
  have f3 := pF_a1_end.other W2 (Or.inr (slot_ne (Or.inr (hw _ (List.mem_of_getElem? (i := 16) rfl))) (Or.inr (hw _ (List.mem_of_getElem? (i := 14) rfl))) (by decide) (t := .int) (t' := (.array .byte)) (by decide) (by decide)))
  have f4 := pF_a1_kind.other W2 (Or.inr (slot_ne (Or.inr (hw _ (List.mem_of_getElem? (i := 18) rfl))) (Or.inr (hw _ (List.mem_of_getElem? (i := 14) rfl))) (by decide) (t := .int) (t' := (.array .byte)) (by decide) (by decide)))
  have f5 := pF_a1_position.other W2 (Or.inr (slot_ne (Or.inl (hw _ (List.mem_of_getElem? (i := 20) rfl))) (Or.inr (hw _ (List.mem_of_getElem? (i := 14) rfl))) (by decide) (t := .int) (t' := (.array .byte)) (by decide) (by decide)))
  have zz2 : n0 ≤ h2.size := Nat.le_trans Z0 (Nat.le_of_eq W2.size.symm)
  have N6 := Fr.snoc X2 N0 pg_a1
  have K7 : Keep h0 h2 [a1] := (Keep.refl h0 [a1]).wr W2 (Or.inl (List.mem_of_getElem? (i := 0) rfl))
  refine o_aloadN X2 hx (hb hby d_prog_3_method_1_code_9) (v := (.ref a1)) rfl rfl (n := 10) rfl ?_
  refine o_iloadN X2 hx (hb hby d_prog_3_method_1_code_10) (v := p1) rfl (n := 11) rfl ?_
  refine o_putfield X2 hx hZ hown (host := "") (Or.inl (hw _ (List.mem_of_getElem? (i := 15) rfl))) Via.refl e2 f3 E_2 (Or.inr ⟨(hw _ (List.mem_of_getElem? (i := 16) rfl)), rfl, hnm⟩) (hw _ (List.mem_of_getElem? (i := 6) rfl)) (ty := .int) (by decide) rfl rfl (hb hby d_prog_3_method_1_code_11) (n := 14) rfl ?_
  intro T8 h8 X8 e8 W8 F8 E_8
  have f9 := F2.other W8 (Or.inr (slot_ne (Or.inr (hw _ (List.mem_of_getElem? (i := 14) rfl))) (Or.inr (hw _ (List.mem_of_getElem? (i := 16) rfl))) (by decide) (t := (.array .byte)) (t' := .int) (by decide) (by decide)))
  have f10 := f4.other W8 (Or.inr (slot_ne (Or.inr (hw _ (List.mem_of_getElem? (i := 18) rfl))) (Or.inr (hw _ (List.mem_of_getElem? (i := 16) rfl))) (by decide) (t := .int) (t' := .int) (by decide) (by decide)))
  have f11 := f5.other W8 (Or.inr (slot_ne (Or.inl (hw _ (List.mem_of_getElem? (i := 20) rfl))) (Or.inr (hw _ (List.mem_of_getElem? (i := 16) rfl))) (by decide) (t := .int) (t' := .int) (by decide) (by decide)))
  have zz8 : n0 ≤ h8.size := Nat.le_trans zz2 (Nat.le_of_eq W8.size.symm)
  have N12 := Fr.snoc X8 N6 pg_a1
  have K13 : Keep h0 h8 [a1] := K7.wr W8 (Or.inl (List.mem_of_getElem? (i := 0) rfl))
  refine o_aloadN X8 hx (hb hby d_prog_3_method_1_code_14) (v := (.ref a1)) rfl rfl (n := 15) rfl ?_
  refine o_iload X8 hx (hb hby d_prog_3_method_1_code_15) (v := p2) rfl (n := 17) rfl ?_
  refine o_putfield X8 hx hZ hown (host := "") (Or.inl (hw _ (List.mem_of_getElem? (i := 17) rfl))) Via.refl e8 f10 E_8 (Or.inr ⟨(hw _ (List.mem_of_getElem? (i := 18) rfl)), rfl, hnm⟩) (hw _ (List.mem_of_getElem? (i := 6) rfl)) (ty := .int) (by decide) rfl rfl (hb hby d_prog_3_method_1_code_17) (n := 20) rfl ?_
  intro T14 h14 X14 e14 W14 F14 E_14
  have f15 := f9.other W14 (Or.inr (slot_ne (Or.inr (hw _ (List.mem_of_getElem? (i := 14) rfl))) (Or.inr (hw _ (List.mem_of_getElem? (i := 18) rfl))) (by decide) (t := (.array .byte)) (t' := .int) (by decide) (by decide)))
  have f16 := F8.other W14 (Or.inr (slot_ne (Or.inr (hw _ (List.mem_of_getElem? (i := 16) rfl))) (Or.inr (hw _ (List.mem_of_getElem? (i := 18) rfl))) (by decide) (t := .int) (t' := .int) (by decide) (by decide)))
  have f17 := f11.other W14 (Or.inr (slot_ne (Or.inl (hw _ (List.mem_of_getElem? (i := 20) rfl))) (Or.inr (hw _ (List.mem_of_getElem? (i := 18) rfl))) (by decide) (t := .int) (t' := .int) (by decide) (by decide)))
  have zz14 : n0 ≤ h14.size := Nat.le_trans zz8 (Nat.le_of_eq W14.size.symm)
  have N18 := Fr.snoc X14 N12 pg_a1
  have K19 : Keep h0 h14 [a1] := K13.wr W14 (Or.inl (List.mem_of_getElem? (i := 0) rfl))
  refine o_aloadN X14 hx (hb hby d_prog_3_method_1_code_20) (v := (.ref a1)) rfl rfl (n := 21) rfl ?_
  refine o_iloadN X14 hx (hb hby d_prog_3_method_1_code_21) (v := p0) rfl (n := 22) rfl ?_
  refine o_putfield X14 hx hZ hown (host := "") (Or.inl (hw _ (List.mem_of_getElem? (i := 19) rfl))) Via.refl e14 f17 E_14 (Or.inl (hw _ (List.mem_of_getElem? (i := 20) rfl))) (hw _ (List.mem_of_getElem? (i := 6) rfl)) (ty := .int) (by decide) rfl rfl (hb hby d_prog_3_method_1_code_22) (n := 25) rfl ?_
  intro T20 h20 X20 e20 W20 F20 E_20
  have f21 := f15.other W20 (Or.inr (slot_ne (Or.inr (hw _ (List.mem_of_getElem? (i := 14) rfl))) (Or.inl (hw _ (List.mem_of_getElem? (i := 20) rfl))) (by decide) (t := (.array .byte)) (t' := .int) (by decide) (by decide)))
  have f22 := f16.other W20 (Or.inr (slot_ne (Or.inr (hw _ (List.mem_of_getElem? (i := 16) rfl))) (Or.inl (hw _ (List.mem_of_getElem? (i := 20) rfl))) (by decide) (t := .int) (t' := .int) (by decide) (by decide)))
  have f23 := F14.other W20 (Or.inr (slot_ne (Or.inr (hw _ (List.mem_of_getElem? (i := 18) rfl))) (Or.inl (hw _ (List.mem_of_getElem? (i := 20) rfl))) (by decide) (t := .int) (t' := .int) (by decide) (by decide)))
  have zz20 : n0 ≤ h20.size := Nat.le_trans zz14 (Nat.le_of_eq W20.size.symm)
  have N24 := Fr.snoc X20 N18 pg_a1
  have K25 : Keep h0 h20 [a1] := K19.wr W20 (Or.inl (List.mem_of_getElem? (i := 0) rfl))
  exact o_return X20 hx hret hlk (hb hby d_prog_3_method_1_code_25) (by decide) (by decide) e20 ⟨rfl, N24, K25, E_20, f21, f22, f23, F20⟩
theorem d_prog_3_method_3_code_0 : decode prog_3_method_3_code 0 = .ok (.new 8, 3) := by decide +kernel
theorem d_prog_3_method_3_code_3 : decode prog_3_method_3_code 3 = .ok (.dup, 1) := by decide +kernel
theorem d_prog_3_method_3_code_4 : decode prog_3_method_3_code 4 = .ok (.aload_n 0, 1) := by decide +kernel
theorem d_prog_3_method_3_code_5 : decode prog_3_method_3_code 5 = .ok (.iconst 0, 1) := by decide +kernel
theorem d_prog_3_method_3_code_6 : decode prog_3_method_3_code 6 = .ok (.aload_n 0, 1) := by decide +kernel
theorem d_prog_3_method_3_code_7 : decode prog_3_method_3_code 7 = .ok (.arraylength, 1) := by decide +kernel
theorem d_prog_3_method_3_code_8 : decode prog_3_method_3_code 8 = .ok (.iconst 0, 1) := by decide +kernel
theorem d_prog_3_method_3_code_9 : decode prog_3_method_3_code 9 = .ok (.invokespecial 65, 3) := by decide +kernel
theorem o_pd0 : parseMethodDescriptor "([BIII)V" = some ⟨[(.array .byte), .int, .int, .int], none⟩ := by decide +kernel
theorem d_prog_3_method_3_code_12 : decode prog_3_method_3_code 12 = .ok (.areturn, 1) := by decide +kernel
theorem o_ef2 (m : MethodId) (a1 : Addr) : entryFrame m #[(.ref a1)] 1 = mkF m 0 #[.val (.ref a1)] [] := by first | (simp [entryFrame, mkF, argsToLocals, Value.category]; done) | rfl
set_option maxRecDepth 65536 in
set_option maxHeartbeats 40000000 in
theorem c_over_0 (l : Launch) (Z : State) (a0 : Array Value) (hw : ∀ d ∈ tables_1, d.before a0 Z = true) (a1 : Addr) (k1 : ClassId) (h0 : Heap) (n0 : Nat) (Z0 : n0 ≤ h0.size) (pV_a1 : Arv Z h0 a1 k1 .byte (0 : Int32) [] (.int (0 : Int32))) :
    Does l Z (⟨"com/example/codicil/codicil/BlobReader", "over", "([B)Lcom/example/codicil/codicil/BlobReader;"⟩ : MethodName) prog_3_method_3_code 1 (some (.object "com/example/codicil/codicil/BlobReader")) [] ({ frames := 2, cells := 1, slots := 4, locals := 29 } : Room) #[(.ref a1)] h0 (fun v h L => ∃ (n1 : Addr), v = some (.ref n1) ∧ Fr n0 L ∧ Keep h0 h [] ∧ h0.size ≤ n1 ∧ Exa Z h n1 "com/example/codicil/codicil/BlobReader" ∧ Fld Z h n1 "com/example/codicil/codicil/BlobReader" "bytes" "[B" (.ref a1) ∧ Fld Z h n1 "com/example/codicil/codicil/BlobReader" "end" "I" (.int (0 : Int32)) ∧ Fld Z h n1 "com/example/codicil/codicil/BlobReader" "kind" "I" (.int (0 : Int32)) ∧ Fld Z h n1 "com/example/codicil/codicil/BlobReader" "position" "I" (.int (0 : Int32))) := by
  refine Does.of (plainFor_of_name o_pn0) ?_
  intro p e s m below meth c T0 hx hby hml hown hnm hret hlk hZ X0 e0
  have hown : s.vm.findClass "com/example/codicil/codicil/BlobReader" = some m.cls := hown
  have hml : c.maxLocals = 1 := hml
  have hret : meth.sig.returnType = some (.object "com/example/codicil/codicil/BlobReader") := hret
  refine o_entry (o_ef2 m a1) ?_
  have N0 := Fr.nil n0
  refine o_new X0 hx hZ hown (hw _ (List.mem_of_getElem? (i := 5) rfl)) (hw _ (List.mem_of_getElem? (i := 6) rfl)) (hw _ (List.mem_of_getElem? (i := 3) rfl)) e0 (hb hby d_prog_3_method_3_code_0) (by decide) (by decide) (n := 3) rfl ?_
  intro T1 h1 b1 X1 e1 g1 E1 A1 D1
  have ne2 : a1 ≠ b1 := Nat.ne_of_lt (Nat.lt_of_lt_of_eq pV_a1.lt g1.symm)
  have gg1 : n0 ≤ b1 := Nat.le_trans Z0 (Nat.le_of_eq g1.symm)
  have zz1 : n0 ≤ h1.size := Nat.le_trans Z0 E1.1
  have sz1 : h0.size ≤ b1 := Nat.le_trans (Keep.refl h0 []).1 (Nat.le_of_eq g1.symm)
  have f3 := pV_a1.ext E1
  have K4 : Keep h0 h1 [] := (Keep.refl h0 []).ext E1
  have f5 : Fld Z h1 b1 "com/example/codicil/codicil/BlobReader" "bytes" "[B" .null := D1 (Or.inr (hw _ (List.mem_of_getElem? (i := 14) rfl))) (ty := (.array .byte)) (by decide)
  have f6 : Fld Z h1 b1 "com/example/codicil/codicil/BlobReader" "end" "I" (.int (0 : Int32)) := D1 (Or.inr (hw _ (List.mem_of_getElem? (i := 16) rfl))) (ty := .int) (by decide)
  have f7 : Fld Z h1 b1 "com/example/codicil/codicil/BlobReader" "kind" "I" (.int (0 : Int32)) := D1 (Or.inr (hw _ (List.mem_of_getElem? (i := 18) rfl))) (ty := .int) (by decide)
  have f8 : Fld Z h1 b1 "com/example/codicil/codicil/BlobReader" "position" "I" (.int (0 : Int32)) := D1 (Or.inl (hw _ (List.mem_of_getElem? (i := 20) rfl))) (ty := .int) (by decide)
  refine o_dup X1 hx (hb hby d_prog_3_method_3_code_3) rfl (n := 4) rfl ?_
  refine o_aloadN X1 hx (hb hby d_prog_3_method_3_code_4) (v := (.ref a1)) rfl rfl (n := 5) rfl ?_
  refine o_iconst X1 hx (hb hby d_prog_3_method_3_code_5) (v := (0 : Int32)) rfl (n := 6) rfl ?_
  refine o_aloadN X1 hx (hb hby d_prog_3_method_3_code_6) (v := (.ref a1)) rfl rfl (n := 7) rfl ?_
  refine o_arraylength X1 hx hZ e1 f3 (hb hby d_prog_3_method_3_code_7) (n := 8) rfl ?_
  refine o_iconst X1 hx (hb hby d_prog_3_method_3_code_8) (v := (0 : Int32)) rfl (n := 9) rfl ?_
  refine o_callN X1 hx hZ rfl hown (hw _ (List.mem_of_getElem? (i := 7) rfl)) (hw _ (List.mem_of_getElem? (i := 8) rfl)) (hw _ (List.mem_of_getElem? (i := 3) rfl)) (hw _ (List.mem_of_getElem? (i := 9) rfl)) (by decide) e1 (a := b1) (argsL := [(.ref a1), (.int (0 : Int32)), (.int (0 : Int32)), (.int (0 : Int32))]) (rest := [(.ref b1)]) (c_init l Z a0 hw b1 a1 (0 : Int32) (0 : Int32) (0 : Int32) h1 n0 zz1 gg1 A1 f5 f6 f7 f8) 1 (by decide) (by decide) (by decide) (by decide) (by rw [hml]; rfl) (lenOf o_pd0 rfl) rfl (Nat.le_of_eq rfl) (hb hby d_prog_3_method_3_code_9) (n := 12) rfl ?_
  intro v9 T9 L9 X9 q9
  obtain ⟨rfl, Nq9, K9, o9_0, o9_1, o9_2, o9_3, o9_4⟩ := q9
  have N10 := Fr.app N0 Nq9
  have f11 := f3.keep K9 (ninS ne2 nin0)
  have f12 := A1.keep K9
  have zz9 : n0 ≤ T9.heap.size := Nat.le_trans zz1 K9.1
  have K17 : Keep h0 T9.heap [] := K4.trans K9 (allS (P := fun x => x ∈ [] ∨ h0.size ≤ x) (Or.inr sz1) all0)
  show Goes p e below s _ _ _ (T9.setTop (mkF m 12 #[.val (.ref a1)] [(.ref b1)]))
  exact o_areturn X9 hx hret hlk rfl rfl (hb hby d_prog_3_method_3_code_12) (by decide) (by decide) (rfl : T9.heap = T9.heap) ⟨b1, rfl, N10, K17, sz1, o9_0, o9_1, o9_2, o9_3, o9_4⟩
theorem o_ef3 (m : MethodId) (a1 : Addr) : entryFrame m #[(.ref a1)] 1 = mkF m 0 #[.val (.ref a1)] [] := by first | (simp [entryFrame, mkF, argsToLocals, Value.category]; done) | rfl
set_option maxRecDepth 65536 in
set_option maxHeartbeats 40000000 in
theorem c_over_1 (l : Launch) (Z : State) (a0 : Array Value) (hw : ∀ d ∈ tables_1, d.before a0 Z = true) (a1 : Addr) (k1 : ClassId) (w0 : Int32) (h0 : Heap) (n0 : Nat) (Z0 : n0 ≤ h0.size) (pV_a1 : Arv Z h0 a1 k1 .byte (1 : Int32) [(.int w0)] (.int (0 : Int32))) :
    Does l Z (⟨"com/example/codicil/codicil/BlobReader", "over", "([B)Lcom/example/codicil/codicil/BlobReader;"⟩ : MethodName) prog_3_method_3_code 1 (some (.object "com/example/codicil/codicil/BlobReader")) [] ({ frames := 2, cells := 1, slots := 4, locals := 29 } : Room) #[(.ref a1)] h0 (fun v h L => ∃ (n1 : Addr), v = some (.ref n1) ∧ Fr n0 L ∧ Keep h0 h [] ∧ h0.size ≤ n1 ∧ Exa Z h n1 "com/example/codicil/codicil/BlobReader" ∧ Fld Z h n1 "com/example/codicil/codicil/BlobReader" "bytes" "[B" (.ref a1) ∧ Fld Z h n1 "com/example/codicil/codicil/BlobReader" "end" "I" (.int (1 : Int32)) ∧ Fld Z h n1 "com/example/codicil/codicil/BlobReader" "kind" "I" (.int (0 : Int32)) ∧ Fld Z h n1 "com/example/codicil/codicil/BlobReader" "position" "I" (.int (0 : Int32))) := by
  refine Does.of (plainFor_of_name o_pn0) ?_
  intro p e s m below meth c T0 hx hby hml hown hnm hret hlk hZ X0 e0
  have hown : s.vm.findClass "com/example/codicil/codicil/BlobReader" = some m.cls := hown
  have hml : c.maxLocals = 1 := hml
  have hret : meth.sig.returnType = some (.object "com/example/codicil/codicil/BlobReader") := hret
  refine o_entry (o_ef3 m a1) ?_
  have N0 := Fr.nil n0
  refine o_new X0 hx hZ hown (hw _ (List.mem_of_getElem? (i := 5) rfl)) (hw _ (List.mem_of_getElem? (i := 6) rfl)) (hw _ (List.mem_of_getElem? (i := 3) rfl)) e0 (hb hby d_prog_3_method_3_code_0) (by decide) (by decide) (n := 3) rfl ?_
  intro T1 h1 b1 X1 e1 g1 E1 A1 D1
  have ne2 : a1 ≠ b1 := Nat.ne_of_lt (Nat.lt_of_lt_of_eq pV_a1.lt g1.symm)
  have gg1 : n0 ≤ b1 := Nat.le_trans Z0 (Nat.le_of_eq g1.symm)
  have zz1 : n0 ≤ h1.size := Nat.le_trans Z0 E1.1
  have sz1 : h0.size ≤ b1 := Nat.le_trans (Keep.refl h0 []).1 (Nat.le_of_eq g1.symm)
  have f3 := pV_a1.ext E1
  have K4 : Keep h0 h1 [] := (Keep.refl h0 []).ext E1
  have f5 : Fld Z h1 b1 "com/example/codicil/codicil/BlobReader" "bytes" "[B" .null := D1 (Or.inr (hw _ (List.mem_of_getElem? (i := 14) rfl))) (ty := (.array .byte)) (by decide)
  have f6 : Fld Z h1 b1 "com/example/codicil/codicil/BlobReader" "end" "I" (.int (0 : Int32)) := D1 (Or.inr (hw _ (List.mem_of_getElem? (i := 16) rfl))) (ty := .int) (by decide)
  have f7 : Fld Z h1 b1 "com/example/codicil/codicil/BlobReader" "kind" "I" (.int (0 : Int32)) := D1 (Or.inr (hw _ (List.mem_of_getElem? (i := 18) rfl))) (ty := .int) (by decide)
  have f8 : Fld Z h1 b1 "com/example/codicil/codicil/BlobReader" "position" "I" (.int (0 : Int32)) := D1 (Or.inl (hw _ (List.mem_of_getElem? (i := 20) rfl))) (ty := .int) (by decide)
  refine o_dup X1 hx (hb hby d_prog_3_method_3_code_3) rfl (n := 4) rfl ?_
  refine o_aloadN X1 hx (hb hby d_prog_3_method_3_code_4) (v := (.ref a1)) rfl rfl (n := 5) rfl ?_
  refine o_iconst X1 hx (hb hby d_prog_3_method_3_code_5) (v := (0 : Int32)) rfl (n := 6) rfl ?_
  refine o_aloadN X1 hx (hb hby d_prog_3_method_3_code_6) (v := (.ref a1)) rfl rfl (n := 7) rfl ?_
  refine o_arraylength X1 hx hZ e1 f3 (hb hby d_prog_3_method_3_code_7) (n := 8) rfl ?_
  refine o_iconst X1 hx (hb hby d_prog_3_method_3_code_8) (v := (0 : Int32)) rfl (n := 9) rfl ?_
  refine o_callN X1 hx hZ rfl hown (hw _ (List.mem_of_getElem? (i := 7) rfl)) (hw _ (List.mem_of_getElem? (i := 8) rfl)) (hw _ (List.mem_of_getElem? (i := 3) rfl)) (hw _ (List.mem_of_getElem? (i := 9) rfl)) (by decide) e1 (a := b1) (argsL := [(.ref a1), (.int (0 : Int32)), (.int (1 : Int32)), (.int (0 : Int32))]) (rest := [(.ref b1)]) (c_init l Z a0 hw b1 a1 (0 : Int32) (1 : Int32) (0 : Int32) h1 n0 zz1 gg1 A1 f5 f6 f7 f8) 1 (by decide) (by decide) (by decide) (by decide) (by rw [hml]; rfl) (lenOf o_pd0 rfl) rfl (Nat.le_of_eq rfl) (hb hby d_prog_3_method_3_code_9) (n := 12) rfl ?_
  intro v9 T9 L9 X9 q9
  obtain ⟨rfl, Nq9, K9, o9_0, o9_1, o9_2, o9_3, o9_4⟩ := q9
  have N10 := Fr.app N0 Nq9
  have f11 := f3.keep K9 (ninS ne2 nin0)
  have f12 := A1.keep K9
  have zz9 : n0 ≤ T9.heap.size := Nat.le_trans zz1 K9.1
  have K17 : Keep h0 T9.heap [] := K4.trans K9 (allS (P := fun x => x ∈ [] ∨ h0.size ≤ x) (Or.inr sz1) all0)
  show Goes p e below s _ _ _ (T9.setTop (mkF m 12 #[.val (.ref a1)] [(.ref b1)]))
  exact o_areturn X9 hx hret hlk rfl rfl (hb hby d_prog_3_method_3_code_12) (by decide) (by decide) (rfl : T9.heap = T9.heap) ⟨b1, rfl, N10, K17, sz1, o9_0, o9_1, o9_2, o9_3, o9_4⟩
theorem d_prog_3_method_12_code_0 : decode prog_3_method_12_code 0 = .ok (.aload_n 0, 1) := by decide +kernel
theorem d_prog_3_method_12_code_1 : decode prog_3_method_12_code 1 = .ok (.getfield 20, 3) := by decide +kernel
theorem d_prog_3_method_12_code_4 : decode prog_3_method_12_code 4 = .ok (.aload_n 0, 1) := by decide +kernel
theorem d_prog_3_method_12_code_5 : decode prog_3_method_12_code 5 = .ok (.getfield 13, 3) := by decide +kernel
theorem d_prog_3_method_12_code_8 : decode prog_3_method_12_code 8 = .ok (.if_icmp .ne 8, 3) := by decide +kernel
theorem d_prog_3_method_12_code_16 : decode prog_3_method_12_code 16 = .ok (.aload_n 0, 1) := by decide +kernel
theorem d_prog_3_method_12_code_17 : decode prog_3_method_12_code 17 = .ok (.getfield 7, 3) := by decide +kernel
theorem d_prog_3_method_12_code_20 : decode prog_3_method_12_code 20 = .ok (.aload_n 0, 1) := by decide +kernel
theorem d_prog_3_method_12_code_21 : decode prog_3_method_12_code 21 = .ok (.dup, 1) := by decide +kernel
theorem d_prog_3_method_12_code_22 : decode prog_3_method_12_code 22 = .ok (.getfield 20, 3) := by decide +kernel
theorem d_prog_3_method_12_code_25 : decode prog_3_method_12_code 25 = .ok (.dup_x1, 1) := by decide +kernel
theorem d_prog_3_method_12_code_26 : decode prog_3_method_12_code 26 = .ok (.iconst 1, 1) := by decide +kernel
theorem d_prog_3_method_12_code_27 : decode prog_3_method_12_code 27 = .ok (.iadd, 1) := by decide +kernel
theorem d_prog_3_method_12_code_28 : decode prog_3_method_12_code 28 = .ok (.putfield 20, 3) := by decide +kernel
theorem d_prog_3_method_12_code_31 : decode prog_3_method_12_code 31 = .ok (.baload, 1) := by decide +kernel
theorem d_prog_3_method_12_code_32 : decode prog_3_method_12_code 32 = .ok (.sipush 255, 3) := by decide +kernel
theorem d_prog_3_method_12_code_35 : decode prog_3_method_12_code 35 = .ok (.iand, 1) := by decide +kernel
theorem d_prog_3_method_12_code_36 : decode prog_3_method_12_code 36 = .ok (.ireturn, 1) := by decide +kernel
theorem o_ef4 (m : MethodId) (a1 : Addr) : entryFrame m #[(.ref a1)] 1 = mkF m 0 #[.val (.ref a1)] [] := by first | (simp [entryFrame, mkF, argsToLocals, Value.category]; done) | rfl
set_option maxRecDepth 65536 in
set_option maxHeartbeats 40000000 in
theorem c_read_1 (l : Launch) (Z : State) (a0 : Array Value) (hw : ∀ d ∈ tables_1, d.before a0 Z = true) (a1 : Addr) (a2 : Addr) (k2 : ClassId) (w0 : Int32) (h0 : Heap) (n0 : Nat) (Z0 : n0 ≤ h0.size) (pg_a1 : n0 ≤ a1) (pE_a1 : Exa Z h0 a1 "com/example/codicil/codicil/BlobReader") (pF_a1_bytes : Fld Z h0 a1 "com/example/codicil/codicil/BlobReader" "bytes" "[B" (.ref a2)) (pF_a1_end : Fld Z h0 a1 "com/example/codicil/codicil/BlobReader" "end" "I" (.int (1 : Int32))) (pF_a1_position : Fld Z h0 a1 "com/example/codicil/codicil/BlobReader" "position" "I" (.int (0 : Int32))) (pV_a2 : Arv Z h0 a2 k2 .byte (1 : Int32) [(.int w0)] (.int (0 : Int32))) (pne_a2_a1 : a2 ≠ a1) :
    Does l Z (⟨"com/example/codicil/codicil/BlobReader", "readByte", "()I"⟩ : MethodName) prog_3_method_12_code 1 (some .int) [] ({ frames := 0, cells := 0, slots := 0, locals := 0 } : Room) #[(.ref a1)] h0 (fun v h L => v = some (.int (w0 &&& (255 : Int32))) ∧ Fr n0 L ∧ Keep h0 h [a1] ∧ Exa Z h a1 "com/example/codicil/codicil/BlobReader" ∧ Fld Z h a1 "com/example/codicil/codicil/BlobReader" "bytes" "[B" (.ref a2) ∧ Fld Z h a1 "com/example/codicil/codicil/BlobReader" "end" "I" (.int (1 : Int32)) ∧ Fld Z h a1 "com/example/codicil/codicil/BlobReader" "position" "I" (.int (1 : Int32))) := by
  refine Does.of (plainFor_of_name o_pn0) ?_
  intro p e s m below meth c T0 hx hby hml hown hnm hret hlk hZ X0 e0
  have hown : s.vm.findClass "com/example/codicil/codicil/BlobReader" = some m.cls := hown
  have hml : c.maxLocals = 1 := hml
  have hret : meth.sig.returnType = some .int := hret
  refine o_entry (o_ef4 m a1) ?_
  have N0 := Fr.nil n0
  refine o_aloadN X0 hx (hb hby d_prog_3_method_12_code_0) (v := (.ref a1)) rfl rfl (n := 1) rfl ?_
  refine o_getfield X0 hx hZ hown (host := "") (Or.inl (hw _ (List.mem_of_getElem? (i := 19) rfl))) Via.refl e0 pF_a1_position (hb hby d_prog_3_method_12_code_1) (n := 4) rfl ?_
  intro T1 X1 e1
  refine o_aloadN X1 hx (hb hby d_prog_3_method_12_code_4) (v := (.ref a1)) rfl rfl (n := 5) rfl ?_
  refine o_getfield X1 hx hZ hown (host := "") (Or.inl (hw _ (List.mem_of_getElem? (i := 15) rfl))) Via.refl e1 pF_a1_end (hb hby d_prog_3_method_12_code_5) (n := 8) rfl ?_
  intro T2 X2 e2
  refine o_icmpY X2 hx (hb hby d_prog_3_method_12_code_8) (XT.ii_ne_t (by decide)) (by decide) (n := 16) (by decide) ?_
  refine o_aloadN X2 hx (hb hby d_prog_3_method_12_code_16) (v := (.ref a1)) rfl rfl (n := 17) rfl ?_
  refine o_getfield X2 hx hZ hown (host := "") (Or.inl (hw _ (List.mem_of_getElem? (i := 13) rfl))) Via.refl e2 pF_a1_bytes (hb hby d_prog_3_method_12_code_17) (n := 20) rfl ?_
  intro T3 X3 e3
  refine o_aloadN X3 hx (hb hby d_prog_3_method_12_code_20) (v := (.ref a1)) rfl rfl (n := 21) rfl ?_
  refine o_dup X3 hx (hb hby d_prog_3_method_12_code_21) rfl (n := 22) rfl ?_
  refine o_getfield X3 hx hZ hown (host := "") (Or.inl (hw _ (List.mem_of_getElem? (i := 19) rfl))) Via.refl e3 pF_a1_position (hb hby d_prog_3_method_12_code_22) (n := 25) rfl ?_
  intro T4 X4 e4
  refine o_dup_x1 X4 hx (hb hby d_prog_3_method_12_code_25) rfl rfl (n := 26) rfl ?_
  refine o_iconst X4 hx (hb hby d_prog_3_method_12_code_26) (v := (1 : Int32)) rfl (n := 27) rfl ?_
  refine o_iadd X4 hx (hb hby d_prog_3_method_12_code_27) (v := (1 : Int32)) (by decide) (n := 28) rfl ?_
  refine o_putfield X4 hx hZ hown (host := "") (Or.inl (hw _ (List.mem_of_getElem? (i := 19) rfl))) Via.refl e4 pF_a1_position pE_a1 (Or.inl (hw _ (List.mem_of_getElem? (i := 20) rfl))) (hw _ (List.mem_of_getElem? (i := 6) rfl)) (ty := .int) (by decide) rfl rfl (hb hby d_prog_3_method_12_code_28) (n := 31) rfl ?_
  intro T5 h5 X5 e5 W5 F5 E_5
  have f6 := pF_a1_bytes.other W5 (Or.inr (slot_ne (Or.inr (hw _ (List.mem_of_getElem? (i := 14) rfl))) (Or.inl (hw _ (List.mem_of_getElem? (i := 20) rfl))) (by decide) (t := (.array .byte)) (t' := .int) (by decide) (by decide)))
  have f7 := pF_a1_end.other W5 (Or.inr (slot_ne (Or.inr (hw _ (List.mem_of_getElem? (i := 16) rfl))) (Or.inl (hw _ (List.mem_of_getElem? (i := 20) rfl))) (by decide) (t := .int) (t' := .int) (by decide) (by decide)))
  have f8 := pV_a2.other W5 pne_a2_a1
  have zz5 : n0 ≤ h5.size := Nat.le_trans Z0 (Nat.le_of_eq W5.size.symm)
  have N9 := Fr.snoc X5 N0 pg_a1
  have K10 : Keep h0 h5 [a1] := (Keep.refl h0 [a1]).wr W5 (Or.inl (List.mem_of_getElem? (i := 0) rfl))
  refine o_baload X5 hx hZ e5 f8 (0) (by decide) (by decide) (v := (.int w0)) rfl (hb hby d_prog_3_method_12_code_31) (n := 32) rfl ?_
  refine o_sipush X5 hx (hb hby d_prog_3_method_12_code_32) (v := (255 : Int32)) rfl (n := 35) rfl ?_
  refine o_iand X5 hx (hb hby d_prog_3_method_12_code_35) (v := (w0 &&& (255 : Int32))) rfl (n := 36) rfl ?_
  exact o_ireturn X5 hx hret hlk (hb hby d_prog_3_method_12_code_36) (by decide) (by decide) e5 ⟨rfl, N9, K10, E_5, f6, f7, F5⟩
theorem o_ef5 (m : MethodId) (a1 : Addr) : entryFrame m #[(.ref a1)] 1 = mkF m 0 #[.val (.ref a1)] [] := by first | (simp [entryFrame, mkF, argsToLocals, Value.category]; done) | rfl
set_option maxRecDepth 65536 in
set_option maxHeartbeats 40000000 in
theorem c_over_2 (l : Launch) (Z : State) (a0 : Array Value) (hw : ∀ d ∈ tables_1, d.before a0 Z = true) (a1 : Addr) (k1 : ClassId) (w0 : Int32) (w1 : Int32) (h0 : Heap) (n0 : Nat) (Z0 : n0 ≤ h0.size) (pV_a1 : Arv Z h0 a1 k1 .byte (2 : Int32) [(.int w0), (.int w1)] (.int (0 : Int32))) :
    Does l Z (⟨"com/example/codicil/codicil/BlobReader", "over", "([B)Lcom/example/codicil/codicil/BlobReader;"⟩ : MethodName) prog_3_method_3_code 1 (some (.object "com/example/codicil/codicil/BlobReader")) [] ({ frames := 2, cells := 1, slots := 4, locals := 29 } : Room) #[(.ref a1)] h0 (fun v h L => ∃ (n1 : Addr), v = some (.ref n1) ∧ Fr n0 L ∧ Keep h0 h [] ∧ h0.size ≤ n1 ∧ Exa Z h n1 "com/example/codicil/codicil/BlobReader" ∧ Fld Z h n1 "com/example/codicil/codicil/BlobReader" "bytes" "[B" (.ref a1) ∧ Fld Z h n1 "com/example/codicil/codicil/BlobReader" "end" "I" (.int (2 : Int32)) ∧ Fld Z h n1 "com/example/codicil/codicil/BlobReader" "kind" "I" (.int (0 : Int32)) ∧ Fld Z h n1 "com/example/codicil/codicil/BlobReader" "position" "I" (.int (0 : Int32))) := by
  refine Does.of (plainFor_of_name o_pn0) ?_
  intro p e s m below meth c T0 hx hby hml hown hnm hret hlk hZ X0 e0
  have hown : s.vm.findClass "com/example/codicil/codicil/BlobReader" = some m.cls := hown
  have hml : c.maxLocals = 1 := hml
  have hret : meth.sig.returnType = some (.object "com/example/codicil/codicil/BlobReader") := hret
  refine o_entry (o_ef5 m a1) ?_
  have N0 := Fr.nil n0
  refine o_new X0 hx hZ hown (hw _ (List.mem_of_getElem? (i := 5) rfl)) (hw _ (List.mem_of_getElem? (i := 6) rfl)) (hw _ (List.mem_of_getElem? (i := 3) rfl)) e0 (hb hby d_prog_3_method_3_code_0) (by decide) (by decide) (n := 3) rfl ?_
  intro T1 h1 b1 X1 e1 g1 E1 A1 D1
  have ne2 : a1 ≠ b1 := Nat.ne_of_lt (Nat.lt_of_lt_of_eq pV_a1.lt g1.symm)
  have gg1 : n0 ≤ b1 := Nat.le_trans Z0 (Nat.le_of_eq g1.symm)
  have zz1 : n0 ≤ h1.size := Nat.le_trans Z0 E1.1
  have sz1 : h0.size ≤ b1 := Nat.le_trans (Keep.refl h0 []).1 (Nat.le_of_eq g1.symm)
  have f3 := pV_a1.ext E1
  have K4 : Keep h0 h1 [] := (Keep.refl h0 []).ext E1
  have f5 : Fld Z h1 b1 "com/example/codicil/codicil/BlobReader" "bytes" "[B" .null := D1 (Or.inr (hw _ (List.mem_of_getElem? (i := 14) rfl))) (ty := (.array .byte)) (by decide)
  have f6 : Fld Z h1 b1 "com/example/codicil/codicil/BlobReader" "end" "I" (.int (0 : Int32)) := D1 (Or.inr (hw _ (List.mem_of_getElem? (i := 16) rfl))) (ty := .int) (by decide)
  have f7 : Fld Z h1 b1 "com/example/codicil/codicil/BlobReader" "kind" "I" (.int (0 : Int32)) := D1 (Or.inr (hw _ (List.mem_of_getElem? (i := 18) rfl))) (ty := .int) (by decide)
  have f8 : Fld Z h1 b1 "com/example/codicil/codicil/BlobReader" "position" "I" (.int (0 : Int32)) := D1 (Or.inl (hw _ (List.mem_of_getElem? (i := 20) rfl))) (ty := .int) (by decide)
  refine o_dup X1 hx (hb hby d_prog_3_method_3_code_3) rfl (n := 4) rfl ?_
  refine o_aloadN X1 hx (hb hby d_prog_3_method_3_code_4) (v := (.ref a1)) rfl rfl (n := 5) rfl ?_
  refine o_iconst X1 hx (hb hby d_prog_3_method_3_code_5) (v := (0 : Int32)) rfl (n := 6) rfl ?_
  refine o_aloadN X1 hx (hb hby d_prog_3_method_3_code_6) (v := (.ref a1)) rfl rfl (n := 7) rfl ?_
  refine o_arraylength X1 hx hZ e1 f3 (hb hby d_prog_3_method_3_code_7) (n := 8) rfl ?_
  refine o_iconst X1 hx (hb hby d_prog_3_method_3_code_8) (v := (0 : Int32)) rfl (n := 9) rfl ?_
  refine o_callN X1 hx hZ rfl hown (hw _ (List.mem_of_getElem? (i := 7) rfl)) (hw _ (List.mem_of_getElem? (i := 8) rfl)) (hw _ (List.mem_of_getElem? (i := 3) rfl)) (hw _ (List.mem_of_getElem? (i := 9) rfl)) (by decide) e1 (a := b1) (argsL := [(.ref a1), (.int (0 : Int32)), (.int (2 : Int32)), (.int (0 : Int32))]) (rest := [(.ref b1)]) (c_init l Z a0 hw b1 a1 (0 : Int32) (2 : Int32) (0 : Int32) h1 n0 zz1 gg1 A1 f5 f6 f7 f8) 1 (by decide) (by decide) (by decide) (by decide) (by rw [hml]; rfl) (lenOf o_pd0 rfl) rfl (Nat.le_of_eq rfl) (hb hby d_prog_3_method_3_code_9) (n := 12) rfl ?_
  intro v9 T9 L9 X9 q9
  obtain ⟨rfl, Nq9, K9, o9_0, o9_1, o9_2, o9_3, o9_4⟩ := q9
  have N10 := Fr.app N0 Nq9
  have f11 := f3.keep K9 (ninS ne2 nin0)
  have f12 := A1.keep K9
  have zz9 : n0 ≤ T9.heap.size := Nat.le_trans zz1 K9.1
  have K17 : Keep h0 T9.heap [] := K4.trans K9 (allS (P := fun x => x ∈ [] ∨ h0.size ≤ x) (Or.inr sz1) all0)
  show Goes p e below s _ _ _ (T9.setTop (mkF m 12 #[.val (.ref a1)] [(.ref b1)]))
  exact o_areturn X9 hx hret hlk rfl rfl (hb hby d_prog_3_method_3_code_12) (by decide) (by decide) (rfl : T9.heap = T9.heap) ⟨b1, rfl, N10, K17, sz1, o9_0, o9_1, o9_2, o9_3, o9_4⟩
theorem o_ef6 (m : MethodId) (a1 : Addr) : entryFrame m #[(.ref a1)] 1 = mkF m 0 #[.val (.ref a1)] [] := by first | (simp [entryFrame, mkF, argsToLocals, Value.category]; done) | rfl
set_option maxRecDepth 65536 in
set_option maxHeartbeats 40000000 in
theorem c_read_2 (l : Launch) (Z : State) (a0 : Array Value) (hw : ∀ d ∈ tables_1, d.before a0 Z = true) (a1 : Addr) (a2 : Addr) (k2 : ClassId) (w0 : Int32) (w1 : Int32) (h0 : Heap) (n0 : Nat) (Z0 : n0 ≤ h0.size) (pg_a1 : n0 ≤ a1) (pE_a1 : Exa Z h0 a1 "com/example/codicil/codicil/BlobReader") (pF_a1_bytes : Fld Z h0 a1 "com/example/codicil/codicil/BlobReader" "bytes" "[B" (.ref a2)) (pF_a1_end : Fld Z h0 a1 "com/example/codicil/codicil/BlobReader" "end" "I" (.int (2 : Int32))) (pF_a1_position : Fld Z h0 a1 "com/example/codicil/codicil/BlobReader" "position" "I" (.int (0 : Int32))) (pV_a2 : Arv Z h0 a2 k2 .byte (2 : Int32) [(.int w0), (.int w1)] (.int (0 : Int32))) (pne_a2_a1 : a2 ≠ a1) :
    Does l Z (⟨"com/example/codicil/codicil/BlobReader", "readByte", "()I"⟩ : MethodName) prog_3_method_12_code 1 (some .int) [] ({ frames := 0, cells := 0, slots := 0, locals := 0 } : Room) #[(.ref a1)] h0 (fun v h L => v = some (.int (w0 &&& (255 : Int32))) ∧ Fr n0 L ∧ Keep h0 h [a1] ∧ Exa Z h a1 "com/example/codicil/codicil/BlobReader" ∧ Fld Z h a1 "com/example/codicil/codicil/BlobReader" "bytes" "[B" (.ref a2) ∧ Fld Z h a1 "com/example/codicil/codicil/BlobReader" "end" "I" (.int (2 : Int32)) ∧ Fld Z h a1 "com/example/codicil/codicil/BlobReader" "position" "I" (.int (1 : Int32))) := by
  refine Does.of (plainFor_of_name o_pn0) ?_
  intro p e s m below meth c T0 hx hby hml hown hnm hret hlk hZ X0 e0
  have hown : s.vm.findClass "com/example/codicil/codicil/BlobReader" = some m.cls := hown
  have hml : c.maxLocals = 1 := hml
  have hret : meth.sig.returnType = some .int := hret
  refine o_entry (o_ef6 m a1) ?_
  have N0 := Fr.nil n0
  refine o_aloadN X0 hx (hb hby d_prog_3_method_12_code_0) (v := (.ref a1)) rfl rfl (n := 1) rfl ?_
  refine o_getfield X0 hx hZ hown (host := "") (Or.inl (hw _ (List.mem_of_getElem? (i := 19) rfl))) Via.refl e0 pF_a1_position (hb hby d_prog_3_method_12_code_1) (n := 4) rfl ?_
  intro T1 X1 e1
  refine o_aloadN X1 hx (hb hby d_prog_3_method_12_code_4) (v := (.ref a1)) rfl rfl (n := 5) rfl ?_
  refine o_getfield X1 hx hZ hown (host := "") (Or.inl (hw _ (List.mem_of_getElem? (i := 15) rfl))) Via.refl e1 pF_a1_end (hb hby d_prog_3_method_12_code_5) (n := 8) rfl ?_
  intro T2 X2 e2
  refine o_icmpY X2 hx (hb hby d_prog_3_method_12_code_8) (XT.ii_ne_t (by decide)) (by decide) (n := 16) (by decide) ?_
  refine o_aloadN X2 hx (hb hby d_prog_3_method_12_code_16) (v := (.ref a1)) rfl rfl (n := 17) rfl ?_
  refine o_getfield X2 hx hZ hown (host := "") (Or.inl (hw _ (List.mem_of_getElem? (i := 13) rfl))) Via.refl e2 pF_a1_bytes (hb hby d_prog_3_method_12_code_17) (n := 20) rfl ?_
  intro T3 X3 e3
  refine o_aloadN X3 hx (hb hby d_prog_3_method_12_code_20) (v := (.ref a1)) rfl rfl (n := 21) rfl ?_
  refine o_dup X3 hx (hb hby d_prog_3_method_12_code_21) rfl (n := 22) rfl ?_
  refine o_getfield X3 hx hZ hown (host := "") (Or.inl (hw _ (List.mem_of_getElem? (i := 19) rfl))) Via.refl e3 pF_a1_position (hb hby d_prog_3_method_12_code_22) (n := 25) rfl ?_
  intro T4 X4 e4
  refine o_dup_x1 X4 hx (hb hby d_prog_3_method_12_code_25) rfl rfl (n := 26) rfl ?_
  refine o_iconst X4 hx (hb hby d_prog_3_method_12_code_26) (v := (1 : Int32)) rfl (n := 27) rfl ?_
  refine o_iadd X4 hx (hb hby d_prog_3_method_12_code_27) (v := (1 : Int32)) (by decide) (n := 28) rfl ?_
  refine o_putfield X4 hx hZ hown (host := "") (Or.inl (hw _ (List.mem_of_getElem? (i := 19) rfl))) Via.refl e4 pF_a1_position pE_a1 (Or.inl (hw _ (List.mem_of_getElem? (i := 20) rfl))) (hw _ (List.mem_of_getElem? (i := 6) rfl)) (ty := .int) (by decide) rfl rfl (hb hby d_prog_3_method_12_code_28) (n := 31) rfl ?_
  intro T5 h5 X5 e5 W5 F5 E_5
  have f6 := pF_a1_bytes.other W5 (Or.inr (slot_ne (Or.inr (hw _ (List.mem_of_getElem? (i := 14) rfl))) (Or.inl (hw _ (List.mem_of_getElem? (i := 20) rfl))) (by decide) (t := (.array .byte)) (t' := .int) (by decide) (by decide)))
  have f7 := pF_a1_end.other W5 (Or.inr (slot_ne (Or.inr (hw _ (List.mem_of_getElem? (i := 16) rfl))) (Or.inl (hw _ (List.mem_of_getElem? (i := 20) rfl))) (by decide) (t := .int) (t' := .int) (by decide) (by decide)))
  have f8 := pV_a2.other W5 pne_a2_a1
  have zz5 : n0 ≤ h5.size := Nat.le_trans Z0 (Nat.le_of_eq W5.size.symm)
  have N9 := Fr.snoc X5 N0 pg_a1
  have K10 : Keep h0 h5 [a1] := (Keep.refl h0 [a1]).wr W5 (Or.inl (List.mem_of_getElem? (i := 0) rfl))
  refine o_baload X5 hx hZ e5 f8 (0) (by decide) (by decide) (v := (.int w0)) rfl (hb hby d_prog_3_method_12_code_31) (n := 32) rfl ?_
  refine o_sipush X5 hx (hb hby d_prog_3_method_12_code_32) (v := (255 : Int32)) rfl (n := 35) rfl ?_
  refine o_iand X5 hx (hb hby d_prog_3_method_12_code_35) (v := (w0 &&& (255 : Int32))) rfl (n := 36) rfl ?_
  exact o_ireturn X5 hx hret hlk (hb hby d_prog_3_method_12_code_36) (by decide) (by decide) e5 ⟨rfl, N9, K10, E_5, f6, f7, F5⟩
theorem o_ef7 (m : MethodId) (a1 : Addr) : entryFrame m #[(.ref a1)] 1 = mkF m 0 #[.val (.ref a1)] [] := by first | (simp [entryFrame, mkF, argsToLocals, Value.category]; done) | rfl
set_option maxRecDepth 65536 in
set_option maxHeartbeats 40000000 in
theorem c_over_3 (l : Launch) (Z : State) (a0 : Array Value) (hw : ∀ d ∈ tables_1, d.before a0 Z = true) (a1 : Addr) (k1 : ClassId) (w0 : Int32) (w1 : Int32) (w2 : Int32) (h0 : Heap) (n0 : Nat) (Z0 : n0 ≤ h0.size) (pV_a1 : Arv Z h0 a1 k1 .byte (3 : Int32) [(.int w0), (.int w1), (.int w2)] (.int (0 : Int32))) :
    Does l Z (⟨"com/example/codicil/codicil/BlobReader", "over", "([B)Lcom/example/codicil/codicil/BlobReader;"⟩ : MethodName) prog_3_method_3_code 1 (some (.object "com/example/codicil/codicil/BlobReader")) [] ({ frames := 2, cells := 1, slots := 4, locals := 29 } : Room) #[(.ref a1)] h0 (fun v h L => ∃ (n1 : Addr), v = some (.ref n1) ∧ Fr n0 L ∧ Keep h0 h [] ∧ h0.size ≤ n1 ∧ Exa Z h n1 "com/example/codicil/codicil/BlobReader" ∧ Fld Z h n1 "com/example/codicil/codicil/BlobReader" "bytes" "[B" (.ref a1) ∧ Fld Z h n1 "com/example/codicil/codicil/BlobReader" "end" "I" (.int (3 : Int32)) ∧ Fld Z h n1 "com/example/codicil/codicil/BlobReader" "kind" "I" (.int (0 : Int32)) ∧ Fld Z h n1 "com/example/codicil/codicil/BlobReader" "position" "I" (.int (0 : Int32))) := by
  refine Does.of (plainFor_of_name o_pn0) ?_
  intro p e s m below meth c T0 hx hby hml hown hnm hret hlk hZ X0 e0
  have hown : s.vm.findClass "com/example/codicil/codicil/BlobReader" = some m.cls := hown
  have hml : c.maxLocals = 1 := hml
  have hret : meth.sig.returnType = some (.object "com/example/codicil/codicil/BlobReader") := hret
  refine o_entry (o_ef7 m a1) ?_
  have N0 := Fr.nil n0
  refine o_new X0 hx hZ hown (hw _ (List.mem_of_getElem? (i := 5) rfl)) (hw _ (List.mem_of_getElem? (i := 6) rfl)) (hw _ (List.mem_of_getElem? (i := 3) rfl)) e0 (hb hby d_prog_3_method_3_code_0) (by decide) (by decide) (n := 3) rfl ?_
  intro T1 h1 b1 X1 e1 g1 E1 A1 D1
  have ne2 : a1 ≠ b1 := Nat.ne_of_lt (Nat.lt_of_lt_of_eq pV_a1.lt g1.symm)
  have gg1 : n0 ≤ b1 := Nat.le_trans Z0 (Nat.le_of_eq g1.symm)
  have zz1 : n0 ≤ h1.size := Nat.le_trans Z0 E1.1
  have sz1 : h0.size ≤ b1 := Nat.le_trans (Keep.refl h0 []).1 (Nat.le_of_eq g1.symm)
  have f3 := pV_a1.ext E1
  have K4 : Keep h0 h1 [] := (Keep.refl h0 []).ext E1
  have f5 : Fld Z h1 b1 "com/example/codicil/codicil/BlobReader" "bytes" "[B" .null := D1 (Or.inr (hw _ (List.mem_of_getElem? (i := 14) rfl))) (ty := (.array .byte)) (by decide)
  have f6 : Fld Z h1 b1 "com/example/codicil/codicil/BlobReader" "end" "I" (.int (0 : Int32)) := D1 (Or.inr (hw _ (List.mem_of_getElem? (i := 16) rfl))) (ty := .int) (by decide)
  have f7 : Fld Z h1 b1 "com/example/codicil/codicil/BlobReader" "kind" "I" (.int (0 : Int32)) := D1 (Or.inr (hw _ (List.mem_of_getElem? (i := 18) rfl))) (ty := .int) (by decide)
  have f8 : Fld Z h1 b1 "com/example/codicil/codicil/BlobReader" "position" "I" (.int (0 : Int32)) := D1 (Or.inl (hw _ (List.mem_of_getElem? (i := 20) rfl))) (ty := .int) (by decide)
  refine o_dup X1 hx (hb hby d_prog_3_method_3_code_3) rfl (n := 4) rfl ?_
  refine o_aloadN X1 hx (hb hby d_prog_3_method_3_code_4) (v := (.ref a1)) rfl rfl (n := 5) rfl ?_
  refine o_iconst X1 hx (hb hby d_prog_3_method_3_code_5) (v := (0 : Int32)) rfl (n := 6) rfl ?_
  refine o_aloadN X1 hx (hb hby d_prog_3_method_3_code_6) (v := (.ref a1)) rfl rfl (n := 7) rfl ?_
  refine o_arraylength X1 hx hZ e1 f3 (hb hby d_prog_3_method_3_code_7) (n := 8) rfl ?_
  refine o_iconst X1 hx (hb hby d_prog_3_method_3_code_8) (v := (0 : Int32)) rfl (n := 9) rfl ?_
  refine o_callN X1 hx hZ rfl hown (hw _ (List.mem_of_getElem? (i := 7) rfl)) (hw _ (List.mem_of_getElem? (i := 8) rfl)) (hw _ (List.mem_of_getElem? (i := 3) rfl)) (hw _ (List.mem_of_getElem? (i := 9) rfl)) (by decide) e1 (a := b1) (argsL := [(.ref a1), (.int (0 : Int32)), (.int (3 : Int32)), (.int (0 : Int32))]) (rest := [(.ref b1)]) (c_init l Z a0 hw b1 a1 (0 : Int32) (3 : Int32) (0 : Int32) h1 n0 zz1 gg1 A1 f5 f6 f7 f8) 1 (by decide) (by decide) (by decide) (by decide) (by rw [hml]; rfl) (lenOf o_pd0 rfl) rfl (Nat.le_of_eq rfl) (hb hby d_prog_3_method_3_code_9) (n := 12) rfl ?_
  intro v9 T9 L9 X9 q9
  obtain ⟨rfl, Nq9, K9, o9_0, o9_1, o9_2, o9_3, o9_4⟩ := q9
  have N10 := Fr.app N0 Nq9
  have f11 := f3.keep K9 (ninS ne2 nin0)
  have f12 := A1.keep K9
  have zz9 : n0 ≤ T9.heap.size := Nat.le_trans zz1 K9.1
  have K17 : Keep h0 T9.heap [] := K4.trans K9 (allS (P := fun x => x ∈ [] ∨ h0.size ≤ x) (Or.inr sz1) all0)
  show Goes p e below s _ _ _ (T9.setTop (mkF m 12 #[.val (.ref a1)] [(.ref b1)]))
  exact o_areturn X9 hx hret hlk rfl rfl (hb hby d_prog_3_method_3_code_12) (by decide) (by decide) (rfl : T9.heap = T9.heap) ⟨b1, rfl, N10, K17, sz1, o9_0, o9_1, o9_2, o9_3, o9_4⟩
theorem o_ef8 (m : MethodId) (a1 : Addr) : entryFrame m #[(.ref a1)] 1 = mkF m 0 #[.val (.ref a1)] [] := by first | (simp [entryFrame, mkF, argsToLocals, Value.category]; done) | rfl
set_option maxRecDepth 65536 in
set_option maxHeartbeats 40000000 in
theorem c_read_3 (l : Launch) (Z : State) (a0 : Array Value) (hw : ∀ d ∈ tables_1, d.before a0 Z = true) (a1 : Addr) (a2 : Addr) (k2 : ClassId) (w0 : Int32) (w1 : Int32) (w2 : Int32) (h0 : Heap) (n0 : Nat) (Z0 : n0 ≤ h0.size) (pg_a1 : n0 ≤ a1) (pE_a1 : Exa Z h0 a1 "com/example/codicil/codicil/BlobReader") (pF_a1_bytes : Fld Z h0 a1 "com/example/codicil/codicil/BlobReader" "bytes" "[B" (.ref a2)) (pF_a1_end : Fld Z h0 a1 "com/example/codicil/codicil/BlobReader" "end" "I" (.int (3 : Int32))) (pF_a1_position : Fld Z h0 a1 "com/example/codicil/codicil/BlobReader" "position" "I" (.int (0 : Int32))) (pV_a2 : Arv Z h0 a2 k2 .byte (3 : Int32) [(.int w0), (.int w1), (.int w2)] (.int (0 : Int32))) (pne_a2_a1 : a2 ≠ a1) :
    Does l Z (⟨"com/example/codicil/codicil/BlobReader", "readByte", "()I"⟩ : MethodName) prog_3_method_12_code 1 (some .int) [] ({ frames := 0, cells := 0, slots := 0, locals := 0 } : Room) #[(.ref a1)] h0 (fun v h L => v = some (.int (w0 &&& (255 : Int32))) ∧ Fr n0 L ∧ Keep h0 h [a1] ∧ Exa Z h a1 "com/example/codicil/codicil/BlobReader" ∧ Fld Z h a1 "com/example/codicil/codicil/BlobReader" "bytes" "[B" (.ref a2) ∧ Fld Z h a1 "com/example/codicil/codicil/BlobReader" "end" "I" (.int (3 : Int32)) ∧ Fld Z h a1 "com/example/codicil/codicil/BlobReader" "position" "I" (.int (1 : Int32))) := by
  refine Does.of (plainFor_of_name o_pn0) ?_
  intro p e s m below meth c T0 hx hby hml hown hnm hret hlk hZ X0 e0
  have hown : s.vm.findClass "com/example/codicil/codicil/BlobReader" = some m.cls := hown
  have hml : c.maxLocals = 1 := hml
  have hret : meth.sig.returnType = some .int := hret
  refine o_entry (o_ef8 m a1) ?_
  have N0 := Fr.nil n0
  refine o_aloadN X0 hx (hb hby d_prog_3_method_12_code_0) (v := (.ref a1)) rfl rfl (n := 1) rfl ?_
  refine o_getfield X0 hx hZ hown (host := "") (Or.inl (hw _ (List.mem_of_getElem? (i := 19) rfl))) Via.refl e0 pF_a1_position (hb hby d_prog_3_method_12_code_1) (n := 4) rfl ?_
  intro T1 X1 e1
  refine o_aloadN X1 hx (hb hby d_prog_3_method_12_code_4) (v := (.ref a1)) rfl rfl (n := 5) rfl ?_
  refine o_getfield X1 hx hZ hown (host := "") (Or.inl (hw _ (List.mem_of_getElem? (i := 15) rfl))) Via.refl e1 pF_a1_end (hb hby d_prog_3_method_12_code_5) (n := 8) rfl ?_
  intro T2 X2 e2
  refine o_icmpY X2 hx (hb hby d_prog_3_method_12_code_8) (XT.ii_ne_t (by decide)) (by decide) (n := 16) (by decide) ?_
  refine o_aloadN X2 hx (hb hby d_prog_3_method_12_code_16) (v := (.ref a1)) rfl rfl (n := 17) rfl ?_
  refine o_getfield X2 hx hZ hown (host := "") (Or.inl (hw _ (List.mem_of_getElem? (i := 13) rfl))) Via.refl e2 pF_a1_bytes (hb hby d_prog_3_method_12_code_17) (n := 20) rfl ?_
  intro T3 X3 e3
  refine o_aloadN X3 hx (hb hby d_prog_3_method_12_code_20) (v := (.ref a1)) rfl rfl (n := 21) rfl ?_
  refine o_dup X3 hx (hb hby d_prog_3_method_12_code_21) rfl (n := 22) rfl ?_
  refine o_getfield X3 hx hZ hown (host := "") (Or.inl (hw _ (List.mem_of_getElem? (i := 19) rfl))) Via.refl e3 pF_a1_position (hb hby d_prog_3_method_12_code_22) (n := 25) rfl ?_
  intro T4 X4 e4
  refine o_dup_x1 X4 hx (hb hby d_prog_3_method_12_code_25) rfl rfl (n := 26) rfl ?_
  refine o_iconst X4 hx (hb hby d_prog_3_method_12_code_26) (v := (1 : Int32)) rfl (n := 27) rfl ?_
  refine o_iadd X4 hx (hb hby d_prog_3_method_12_code_27) (v := (1 : Int32)) (by decide) (n := 28) rfl ?_
  refine o_putfield X4 hx hZ hown (host := "") (Or.inl (hw _ (List.mem_of_getElem? (i := 19) rfl))) Via.refl e4 pF_a1_position pE_a1 (Or.inl (hw _ (List.mem_of_getElem? (i := 20) rfl))) (hw _ (List.mem_of_getElem? (i := 6) rfl)) (ty := .int) (by decide) rfl rfl (hb hby d_prog_3_method_12_code_28) (n := 31) rfl ?_
  intro T5 h5 X5 e5 W5 F5 E_5
  have f6 := pF_a1_bytes.other W5 (Or.inr (slot_ne (Or.inr (hw _ (List.mem_of_getElem? (i := 14) rfl))) (Or.inl (hw _ (List.mem_of_getElem? (i := 20) rfl))) (by decide) (t := (.array .byte)) (t' := .int) (by decide) (by decide)))
  have f7 := pF_a1_end.other W5 (Or.inr (slot_ne (Or.inr (hw _ (List.mem_of_getElem? (i := 16) rfl))) (Or.inl (hw _ (List.mem_of_getElem? (i := 20) rfl))) (by decide) (t := .int) (t' := .int) (by decide) (by decide)))
  have f8 := pV_a2.other W5 pne_a2_a1
  have zz5 : n0 ≤ h5.size := Nat.le_trans Z0 (Nat.le_of_eq W5.size.symm)
  have N9 := Fr.snoc X5 N0 pg_a1
  have K10 : Keep h0 h5 [a1] := (Keep.refl h0 [a1]).wr W5 (Or.inl (List.mem_of_getElem? (i := 0) rfl))
  refine o_baload X5 hx hZ e5 f8 (0) (by decide) (by decide) (v := (.int w0)) rfl (hb hby d_prog_3_method_12_code_31) (n := 32) rfl ?_
  refine o_sipush X5 hx (hb hby d_prog_3_method_12_code_32) (v := (255 : Int32)) rfl (n := 35) rfl ?_
  refine o_iand X5 hx (hb hby d_prog_3_method_12_code_35) (v := (w0 &&& (255 : Int32))) rfl (n := 36) rfl ?_
  exact o_ireturn X5 hx hret hlk (hb hby d_prog_3_method_12_code_36) (by decide) (by decide) e5 ⟨rfl, N9, K10, E_5, f6, f7, F5⟩
theorem o_ef9 (m : MethodId) (a1 : Addr) : entryFrame m #[(.ref a1)] 1 = mkF m 0 #[.val (.ref a1)] [] := by first | (simp [entryFrame, mkF, argsToLocals, Value.category]; done) | rfl
set_option maxRecDepth 65536 in
set_option maxHeartbeats 40000000 in
theorem c_over_4 (l : Launch) (Z : State) (a0 : Array Value) (hw : ∀ d ∈ tables_1, d.before a0 Z = true) (a1 : Addr) (k1 : ClassId) (w0 : Int32) (w1 : Int32) (w2 : Int32) (w3 : Int32) (h0 : Heap) (n0 : Nat) (Z0 : n0 ≤ h0.size) (pV_a1 : Arv Z h0 a1 k1 .byte (4 : Int32) [(.int w0), (.int w1), (.int w2), (.int w3)] (.int (0 : Int32))) :
    Does l Z (⟨"com/example/codicil/codicil/BlobReader", "over", "([B)Lcom/example/codicil/codicil/BlobReader;"⟩ : MethodName) prog_3_method_3_code 1 (some (.object "com/example/codicil/codicil/BlobReader")) [] ({ frames := 2, cells := 1, slots := 4, locals := 29 } : Room) #[(.ref a1)] h0 (fun v h L => ∃ (n1 : Addr), v = some (.ref n1) ∧ Fr n0 L ∧ Keep h0 h [] ∧ h0.size ≤ n1 ∧ Exa Z h n1 "com/example/codicil/codicil/BlobReader" ∧ Fld Z h n1 "com/example/codicil/codicil/BlobReader" "bytes" "[B" (.ref a1) ∧ Fld Z h n1 "com/example/codicil/codicil/BlobReader" "end" "I" (.int (4 : Int32)) ∧ Fld Z h n1 "com/example/codicil/codicil/BlobReader" "kind" "I" (.int (0 : Int32)) ∧ Fld Z h n1 "com/example/codicil/codicil/BlobReader" "position" "I" (.int (0 : Int32))) := by
  refine Does.of (plainFor_of_name o_pn0) ?_
  intro p e s m below meth c T0 hx hby hml hown hnm hret hlk hZ X0 e0
  have hown : s.vm.findClass "com/example/codicil/codicil/BlobReader" = some m.cls := hown
  have hml : c.maxLocals = 1 := hml
  have hret : meth.sig.returnType = some (.object "com/example/codicil/codicil/BlobReader") := hret
  refine o_entry (o_ef9 m a1) ?_
  have N0 := Fr.nil n0
  refine o_new X0 hx hZ hown (hw _ (List.mem_of_getElem? (i := 5) rfl)) (hw _ (List.mem_of_getElem? (i := 6) rfl)) (hw _ (List.mem_of_getElem? (i := 3) rfl)) e0 (hb hby d_prog_3_method_3_code_0) (by decide) (by decide) (n := 3) rfl ?_
  intro T1 h1 b1 X1 e1 g1 E1 A1 D1
  have ne2 : a1 ≠ b1 := Nat.ne_of_lt (Nat.lt_of_lt_of_eq pV_a1.lt g1.symm)
  have gg1 : n0 ≤ b1 := Nat.le_trans Z0 (Nat.le_of_eq g1.symm)
  have zz1 : n0 ≤ h1.size := Nat.le_trans Z0 E1.1
  have sz1 : h0.size ≤ b1 := Nat.le_trans (Keep.refl h0 []).1 (Nat.le_of_eq g1.symm)
  have f3 := pV_a1.ext E1
  have K4 : Keep h0 h1 [] := (Keep.refl h0 []).ext E1
  have f5 : Fld Z h1 b1 "com/example/codicil/codicil/BlobReader" "bytes" "[B" .null := D1 (Or.inr (hw _ (List.mem_of_getElem? (i := 14) rfl))) (ty := (.array .byte)) (by decide)
  have f6 : Fld Z h1 b1 "com/example/codicil/codicil/BlobReader" "end" "I" (.int (0 : Int32)) := D1 (Or.inr (hw _ (List.mem_of_getElem? (i := 16) rfl))) (ty := .int) (by decide)
  have f7 : Fld Z h1 b1 "com/example/codicil/codicil/BlobReader" "kind" "I" (.int (0 : Int32)) := D1 (Or.inr (hw _ (List.mem_of_getElem? (i := 18) rfl))) (ty := .int) (by decide)
  have f8 : Fld Z h1 b1 "com/example/codicil/codicil/BlobReader" "position" "I" (.int (0 : Int32)) := D1 (Or.inl (hw _ (List.mem_of_getElem? (i := 20) rfl))) (ty := .int) (by decide)
  refine o_dup X1 hx (hb hby d_prog_3_method_3_code_3) rfl (n := 4) rfl ?_
  refine o_aloadN X1 hx (hb hby d_prog_3_method_3_code_4) (v := (.ref a1)) rfl rfl (n := 5) rfl ?_
  refine o_iconst X1 hx (hb hby d_prog_3_method_3_code_5) (v := (0 : Int32)) rfl (n := 6) rfl ?_
  refine o_aloadN X1 hx (hb hby d_prog_3_method_3_code_6) (v := (.ref a1)) rfl rfl (n := 7) rfl ?_
  refine o_arraylength X1 hx hZ e1 f3 (hb hby d_prog_3_method_3_code_7) (n := 8) rfl ?_
  refine o_iconst X1 hx (hb hby d_prog_3_method_3_code_8) (v := (0 : Int32)) rfl (n := 9) rfl ?_
  refine o_callN X1 hx hZ rfl hown (hw _ (List.mem_of_getElem? (i := 7) rfl)) (hw _ (List.mem_of_getElem? (i := 8) rfl)) (hw _ (List.mem_of_getElem? (i := 3) rfl)) (hw _ (List.mem_of_getElem? (i := 9) rfl)) (by decide) e1 (a := b1) (argsL := [(.ref a1), (.int (0 : Int32)), (.int (4 : Int32)), (.int (0 : Int32))]) (rest := [(.ref b1)]) (c_init l Z a0 hw b1 a1 (0 : Int32) (4 : Int32) (0 : Int32) h1 n0 zz1 gg1 A1 f5 f6 f7 f8) 1 (by decide) (by decide) (by decide) (by decide) (by rw [hml]; rfl) (lenOf o_pd0 rfl) rfl (Nat.le_of_eq rfl) (hb hby d_prog_3_method_3_code_9) (n := 12) rfl ?_
  intro v9 T9 L9 X9 q9
  obtain ⟨rfl, Nq9, K9, o9_0, o9_1, o9_2, o9_3, o9_4⟩ := q9
  have N10 := Fr.app N0 Nq9
  have f11 := f3.keep K9 (ninS ne2 nin0)
  have f12 := A1.keep K9
  have zz9 : n0 ≤ T9.heap.size := Nat.le_trans zz1 K9.1
  have K17 : Keep h0 T9.heap [] := K4.trans K9 (allS (P := fun x => x ∈ [] ∨ h0.size ≤ x) (Or.inr sz1) all0)
  show Goes p e below s _ _ _ (T9.setTop (mkF m 12 #[.val (.ref a1)] [(.ref b1)]))
  exact o_areturn X9 hx hret hlk rfl rfl (hb hby d_prog_3_method_3_code_12) (by decide) (by decide) (rfl : T9.heap = T9.heap) ⟨b1, rfl, N10, K17, sz1, o9_0, o9_1, o9_2, o9_3, o9_4⟩
theorem o_ef10 (m : MethodId) (a1 : Addr) : entryFrame m #[(.ref a1)] 1 = mkF m 0 #[.val (.ref a1)] [] := by first | (simp [entryFrame, mkF, argsToLocals, Value.category]; done) | rfl
set_option maxRecDepth 65536 in
set_option maxHeartbeats 40000000 in
theorem c_read_4 (l : Launch) (Z : State) (a0 : Array Value) (hw : ∀ d ∈ tables_1, d.before a0 Z = true) (a1 : Addr) (a2 : Addr) (k2 : ClassId) (w0 : Int32) (w1 : Int32) (w2 : Int32) (w3 : Int32) (h0 : Heap) (n0 : Nat) (Z0 : n0 ≤ h0.size) (pg_a1 : n0 ≤ a1) (pE_a1 : Exa Z h0 a1 "com/example/codicil/codicil/BlobReader") (pF_a1_bytes : Fld Z h0 a1 "com/example/codicil/codicil/BlobReader" "bytes" "[B" (.ref a2)) (pF_a1_end : Fld Z h0 a1 "com/example/codicil/codicil/BlobReader" "end" "I" (.int (4 : Int32))) (pF_a1_position : Fld Z h0 a1 "com/example/codicil/codicil/BlobReader" "position" "I" (.int (0 : Int32))) (pV_a2 : Arv Z h0 a2 k2 .byte (4 : Int32) [(.int w0), (.int w1), (.int w2), (.int w3)] (.int (0 : Int32))) (pne_a2_a1 : a2 ≠ a1) :
    Does l Z (⟨"com/example/codicil/codicil/BlobReader", "readByte", "()I"⟩ : MethodName) prog_3_method_12_code 1 (some .int) [] ({ frames := 0, cells := 0, slots := 0, locals := 0 } : Room) #[(.ref a1)] h0 (fun v h L => v = some (.int (w0 &&& (255 : Int32))) ∧ Fr n0 L ∧ Keep h0 h [a1] ∧ Exa Z h a1 "com/example/codicil/codicil/BlobReader" ∧ Fld Z h a1 "com/example/codicil/codicil/BlobReader" "bytes" "[B" (.ref a2) ∧ Fld Z h a1 "com/example/codicil/codicil/BlobReader" "end" "I" (.int (4 : Int32)) ∧ Fld Z h a1 "com/example/codicil/codicil/BlobReader" "position" "I" (.int (1 : Int32))) := by
  refine Does.of (plainFor_of_name o_pn0) ?_
  intro p e s m below meth c T0 hx hby hml hown hnm hret hlk hZ X0 e0
  have hown : s.vm.findClass "com/example/codicil/codicil/BlobReader" = some m.cls := hown
  have hml : c.maxLocals = 1 := hml
  have hret : meth.sig.returnType = some .int := hret
  refine o_entry (o_ef10 m a1) ?_
  have N0 := Fr.nil n0
  refine o_aloadN X0 hx (hb hby d_prog_3_method_12_code_0) (v := (.ref a1)) rfl rfl (n := 1) rfl ?_
  refine o_getfield X0 hx hZ hown (host := "") (Or.inl (hw _ (List.mem_of_getElem? (i := 19) rfl))) Via.refl e0 pF_a1_position (hb hby d_prog_3_method_12_code_1) (n := 4) rfl ?_
  intro T1 X1 e1
  refine o_aloadN X1 hx (hb hby d_prog_3_method_12_code_4) (v := (.ref a1)) rfl rfl (n := 5) rfl ?_
  refine o_getfield X1 hx hZ hown (host := "") (Or.inl (hw _ (List.mem_of_getElem? (i := 15) rfl))) Via.refl e1 pF_a1_end (hb hby d_prog_3_method_12_code_5) (n := 8) rfl ?_
  intro T2 X2 e2
  refine o_icmpY X2 hx (hb hby d_prog_3_method_12_code_8) (XT.ii_ne_t (by decide)) (by decide) (n := 16) (by decide) ?_
  refine o_aloadN X2 hx (hb hby d_prog_3_method_12_code_16) (v := (.ref a1)) rfl rfl (n := 17) rfl ?_
  refine o_getfield X2 hx hZ hown (host := "") (Or.inl (hw _ (List.mem_of_getElem? (i := 13) rfl))) Via.refl e2 pF_a1_bytes (hb hby d_prog_3_method_12_code_17) (n := 20) rfl ?_
  intro T3 X3 e3
  refine o_aloadN X3 hx (hb hby d_prog_3_method_12_code_20) (v := (.ref a1)) rfl rfl (n := 21) rfl ?_
  refine o_dup X3 hx (hb hby d_prog_3_method_12_code_21) rfl (n := 22) rfl ?_
  refine o_getfield X3 hx hZ hown (host := "") (Or.inl (hw _ (List.mem_of_getElem? (i := 19) rfl))) Via.refl e3 pF_a1_position (hb hby d_prog_3_method_12_code_22) (n := 25) rfl ?_
  intro T4 X4 e4
  refine o_dup_x1 X4 hx (hb hby d_prog_3_method_12_code_25) rfl rfl (n := 26) rfl ?_
  refine o_iconst X4 hx (hb hby d_prog_3_method_12_code_26) (v := (1 : Int32)) rfl (n := 27) rfl ?_
  refine o_iadd X4 hx (hb hby d_prog_3_method_12_code_27) (v := (1 : Int32)) (by decide) (n := 28) rfl ?_
  refine o_putfield X4 hx hZ hown (host := "") (Or.inl (hw _ (List.mem_of_getElem? (i := 19) rfl))) Via.refl e4 pF_a1_position pE_a1 (Or.inl (hw _ (List.mem_of_getElem? (i := 20) rfl))) (hw _ (List.mem_of_getElem? (i := 6) rfl)) (ty := .int) (by decide) rfl rfl (hb hby d_prog_3_method_12_code_28) (n := 31) rfl ?_
  intro T5 h5 X5 e5 W5 F5 E_5
  have f6 := pF_a1_bytes.other W5 (Or.inr (slot_ne (Or.inr (hw _ (List.mem_of_getElem? (i := 14) rfl))) (Or.inl (hw _ (List.mem_of_getElem? (i := 20) rfl))) (by decide) (t := (.array .byte)) (t' := .int) (by decide) (by decide)))
  have f7 := pF_a1_end.other W5 (Or.inr (slot_ne (Or.inr (hw _ (List.mem_of_getElem? (i := 16) rfl))) (Or.inl (hw _ (List.mem_of_getElem? (i := 20) rfl))) (by decide) (t := .int) (t' := .int) (by decide) (by decide)))
  have f8 := pV_a2.other W5 pne_a2_a1
  have zz5 : n0 ≤ h5.size := Nat.le_trans Z0 (Nat.le_of_eq W5.size.symm)
  have N9 := Fr.snoc X5 N0 pg_a1
  have K10 : Keep h0 h5 [a1] := (Keep.refl h0 [a1]).wr W5 (Or.inl (List.mem_of_getElem? (i := 0) rfl))
  refine o_baload X5 hx hZ e5 f8 (0) (by decide) (by decide) (v := (.int w0)) rfl (hb hby d_prog_3_method_12_code_31) (n := 32) rfl ?_
  refine o_sipush X5 hx (hb hby d_prog_3_method_12_code_32) (v := (255 : Int32)) rfl (n := 35) rfl ?_
  refine o_iand X5 hx (hb hby d_prog_3_method_12_code_35) (v := (w0 &&& (255 : Int32))) rfl (n := 36) rfl ?_
  exact o_ireturn X5 hx hret hlk (hb hby d_prog_3_method_12_code_36) (by decide) (by decide) e5 ⟨rfl, N9, K10, E_5, f6, f7, F5⟩
theorem d_prog_3_method_7_code_0 : decode prog_3_method_7_code 0 = .ok (.aload_n 0, 1) := by decide +kernel
theorem d_prog_3_method_7_code_1 : decode prog_3_method_7_code 1 = .ok (.getfield 20, 3) := by decide +kernel
theorem d_prog_3_method_7_code_4 : decode prog_3_method_7_code 4 = .ok (.ireturn, 1) := by decide +kernel
theorem o_ef11 (m : MethodId) (a1 : Addr) : entryFrame m #[(.ref a1)] 1 = mkF m 0 #[.val (.ref a1)] [] := by first | (simp [entryFrame, mkF, argsToLocals, Value.category]; done) | rfl
set_option maxRecDepth 65536 in
set_option maxHeartbeats 40000000 in
theorem c_position (l : Launch) (Z : State) (a0 : Array Value) (hw : ∀ d ∈ tables_1, d.before a0 Z = true) (a1 : Addr) (w : Int32) (h0 : Heap) (pF_a1_position : Fld Z h0 a1 "com/example/codicil/codicil/BlobReader" "position" "I" (.int w)) :
    Does l Z (⟨"com/example/codicil/codicil/BlobReader", "position", "()I"⟩ : MethodName) prog_3_method_7_code 1 (some .int) [] ({ frames := 0, cells := 0, slots := 0, locals := 0 } : Room) #[(.ref a1)] h0 (Pur h0 (.int w)) := by
  refine Does.of (plainFor_of_name o_pn0) ?_
  intro p e s m below meth c T0 hx hby hml hown hnm hret hlk hZ X0 e0
  have hown : s.vm.findClass "com/example/codicil/codicil/BlobReader" = some m.cls := hown
  have hml : c.maxLocals = 1 := hml
  have hret : meth.sig.returnType = some .int := hret
  refine o_entry (o_ef11 m a1) ?_
  refine o_aloadN X0 hx (hb hby d_prog_3_method_7_code_0) (v := (.ref a1)) rfl rfl (n := 1) rfl ?_
  refine o_getfield X0 hx hZ hown (host := "") (Or.inl (hw _ (List.mem_of_getElem? (i := 19) rfl))) Via.refl e0 pF_a1_position (hb hby d_prog_3_method_7_code_1) (n := 4) rfl ?_
  intro T1 X1 e1
  exact o_ireturn X1 hx hret hlk (hb hby d_prog_3_method_7_code_4) (by decide) (by decide) e1 ⟨rfl, rfl, rfl⟩
theorem d_prog_3_method_5_code_0 : decode prog_3_method_5_code 0 = .ok (.aload_n 0, 1) := by decide +kernel
theorem d_prog_3_method_5_code_1 : decode prog_3_method_5_code 1 = .ok (.getfield 17, 3) := by decide +kernel
theorem d_prog_3_method_5_code_4 : decode prog_3_method_5_code 4 = .ok (.ireturn, 1) := by decide +kernel
theorem o_ef12 (m : MethodId) (a1 : Addr) : entryFrame m #[(.ref a1)] 1 = mkF m 0 #[.val (.ref a1)] [] := by first | (simp [entryFrame, mkF, argsToLocals, Value.category]; done) | rfl
set_option maxRecDepth 65536 in
set_option maxHeartbeats 40000000 in
theorem c_kind (l : Launch) (Z : State) (a0 : Array Value) (hw : ∀ d ∈ tables_1, d.before a0 Z = true) (a1 : Addr) (w : Int32) (h0 : Heap) (pF_a1_kind : Fld Z h0 a1 "com/example/codicil/codicil/BlobReader" "kind" "I" (.int w)) :
    Does l Z (⟨"com/example/codicil/codicil/BlobReader", "kind", "()I"⟩ : MethodName) prog_3_method_5_code 1 (some .int) [] ({ frames := 0, cells := 0, slots := 0, locals := 0 } : Room) #[(.ref a1)] h0 (Pur h0 (.int w)) := by
  refine Does.of (plainFor_of_name o_pn0) ?_
  intro p e s m below meth c T0 hx hby hml hown hnm hret hlk hZ X0 e0
  have hown : s.vm.findClass "com/example/codicil/codicil/BlobReader" = some m.cls := hown
  have hml : c.maxLocals = 1 := hml
  have hret : meth.sig.returnType = some .int := hret
  refine o_entry (o_ef12 m a1) ?_
  refine o_aloadN X0 hx (hb hby d_prog_3_method_5_code_0) (v := (.ref a1)) rfl rfl (n := 1) rfl ?_
  refine o_getfield X0 hx hZ hown (host := "") (Or.inl (hw _ (List.mem_of_getElem? (i := 17) rfl))) Via.refl e0 pF_a1_kind (hb hby d_prog_3_method_5_code_1) (n := 4) rfl ?_
  intro T1 X1 e1
  exact o_ireturn X1 hx hret hlk (hb hby d_prog_3_method_5_code_4) (by decide) (by decide) e1 ⟨rfl, rfl, rfl⟩
theorem d_prog_3_method_6_code_0 : decode prog_3_method_6_code 0 = .ok (.aload_n 0, 1) := by decide +kernel
theorem d_prog_3_method_6_code_1 : decode prog_3_method_6_code 1 = .ok (.getfield 13, 3) := by decide +kernel
theorem d_prog_3_method_6_code_4 : decode prog_3_method_6_code 4 = .ok (.aload_n 0, 1) := by decide +kernel
theorem d_prog_3_method_6_code_5 : decode prog_3_method_6_code 5 = .ok (.getfield 20, 3) := by decide +kernel
theorem d_prog_3_method_6_code_8 : decode prog_3_method_6_code 8 = .ok (.isub, 1) := by decide +kernel
theorem d_prog_3_method_6_code_9 : decode prog_3_method_6_code 9 = .ok (.ireturn, 1) := by decide +kernel
theorem o_ef13 (m : MethodId) (a1 : Addr) : entryFrame m #[(.ref a1)] 1 = mkF m 0 #[.val (.ref a1)] [] := by first | (simp [entryFrame, mkF, argsToLocals, Value.category]; done) | rfl
set_option maxRecDepth 65536 in
set_option maxHeartbeats 40000000 in
theorem c_remaining (l : Launch) (Z : State) (a0 : Array Value) (hw : ∀ d ∈ tables_1, d.before a0 Z = true) (a1 : Addr) (w : Int32) (u : Int32) (h0 : Heap) (pF_a1_end : Fld Z h0 a1 "com/example/codicil/codicil/BlobReader" "end" "I" (.int w)) (pF_a1_position : Fld Z h0 a1 "com/example/codicil/codicil/BlobReader" "position" "I" (.int u)) :
    Does l Z (⟨"com/example/codicil/codicil/BlobReader", "remaining", "()I"⟩ : MethodName) prog_3_method_6_code 1 (some .int) [] ({ frames := 0, cells := 0, slots := 0, locals := 0 } : Room) #[(.ref a1)] h0 (Pur h0 (.int (w - u))) := by
  refine Does.of (plainFor_of_name o_pn0) ?_
  intro p e s m below meth c T0 hx hby hml hown hnm hret hlk hZ X0 e0
  have hown : s.vm.findClass "com/example/codicil/codicil/BlobReader" = some m.cls := hown
  have hml : c.maxLocals = 1 := hml
  have hret : meth.sig.returnType = some .int := hret
  refine o_entry (o_ef13 m a1) ?_
  refine o_aloadN X0 hx (hb hby d_prog_3_method_6_code_0) (v := (.ref a1)) rfl rfl (n := 1) rfl ?_
  refine o_getfield X0 hx hZ hown (host := "") (Or.inl (hw _ (List.mem_of_getElem? (i := 15) rfl))) Via.refl e0 pF_a1_end (hb hby d_prog_3_method_6_code_1) (n := 4) rfl ?_
  intro T1 X1 e1
  refine o_aloadN X1 hx (hb hby d_prog_3_method_6_code_4) (v := (.ref a1)) rfl rfl (n := 5) rfl ?_
  refine o_getfield X1 hx hZ hown (host := "") (Or.inl (hw _ (List.mem_of_getElem? (i := 19) rfl))) Via.refl e1 pF_a1_position (hb hby d_prog_3_method_6_code_5) (n := 8) rfl ?_
  intro T2 X2 e2
  refine o_isub X2 hx (hb hby d_prog_3_method_6_code_8) (v := (w - u)) rfl (n := 9) rfl ?_
  exact o_ireturn X2 hx hret hlk (hb hby d_prog_3_method_6_code_9) (by decide) (by decide) e2 ⟨rfl, rfl, rfl⟩
theorem d_prog_3_method_9_code_0 : decode prog_3_method_9_code 0 = .ok (.aload_n 0, 1) := by decide +kernel
theorem d_prog_3_method_9_code_1 : decode prog_3_method_9_code 1 = .ok (.getfield 7, 3) := by decide +kernel
theorem d_prog_3_method_9_code_4 : decode prog_3_method_9_code 4 = .ok (.areturn, 1) := by decide +kernel
theorem o_ef14 (m : MethodId) (a1 : Addr) : entryFrame m #[(.ref a1)] 1 = mkF m 0 #[.val (.ref a1)] [] := by first | (simp [entryFrame, mkF, argsToLocals, Value.category]; done) | rfl
set_option maxRecDepth 65536 in
set_option maxHeartbeats 40000000 in
theorem c_bytes (l : Launch) (Z : State) (a0 : Array Value) (hw : ∀ d ∈ tables_1, d.before a0 Z = true) (a1 : Addr) (a2 : Addr) (h0 : Heap) (pF_a1_bytes : Fld Z h0 a1 "com/example/codicil/codicil/BlobReader" "bytes" "[B" (.ref a2)) :
    Does l Z (⟨"com/example/codicil/codicil/BlobReader", "bytes", "()[B"⟩ : MethodName) prog_3_method_9_code 1 (some (.array .byte)) [] ({ frames := 0, cells := 0, slots := 0, locals := 0 } : Room) #[(.ref a1)] h0 (Pur h0 (.ref a2)) := by
  refine Does.of (plainFor_of_name o_pn0) ?_
  intro p e s m below meth c T0 hx hby hml hown hnm hret hlk hZ X0 e0
  have hown : s.vm.findClass "com/example/codicil/codicil/BlobReader" = some m.cls := hown
  have hml : c.maxLocals = 1 := hml
  have hret : meth.sig.returnType = some (.array .byte) := hret
  refine o_entry (o_ef14 m a1) ?_
  refine o_aloadN X0 hx (hb hby d_prog_3_method_9_code_0) (v := (.ref a1)) rfl rfl (n := 1) rfl ?_
  refine o_getfield X0 hx hZ hown (host := "") (Or.inl (hw _ (List.mem_of_getElem? (i := 13) rfl))) Via.refl e0 pF_a1_bytes (hb hby d_prog_3_method_9_code_1) (n := 4) rfl ?_
  intro T1 X1 e1
  exact o_areturn X1 hx hret hlk rfl rfl (hb hby d_prog_3_method_9_code_4) (by decide) (by decide) e1 ⟨rfl, rfl, rfl⟩
theorem o_pd1 : parseMethodDescriptor "([B)Lcom/example/codicil/codicil/BlobReader;" = some ⟨[(.array .byte)], some (.object "com/example/codicil/codicil/BlobReader")⟩ := by decide +kernel
theorem o_pd2 : parseMethodDescriptor "()I" = some ⟨[], some .int⟩ := by decide +kernel
theorem o_pd3 : parseMethodDescriptor "()[B" = some ⟨[], some (.array .byte)⟩ := by decide +kernel
theorem o_ef15 (m : MethodId) (p0 : Int32) (p1 : Int32) (p2 : Int32) (p3 : Int32) (p4 : Int32) : entryFrame m #[(.int p0), (.int p1), (.int p2), (.int p3), (.int p4)] maxLocals = mkF m 0 #[.val (.int p0), .val (.int p1), .val (.int p2), .val (.int p3), .val (.int p4), .unset, .unset, .unset, .unset, .unset] [] := by first | (simp [entryFrame, mkF, argsToLocals, Value.category, maxLocals]; done) | rfl
theorem o_pn1 : plainName "com/example/codicil/codicil/BlobReaderOverPinLaw" = true := by first | (simp [plainName, overriddenIn]; done) | decide +kernel
set_option maxRecDepth 65536 in
set_option maxHeartbeats 40000000 in
theorem o_law (l : Launch) (Z : State) (a0 : Array Value) (hw : ∀ d ∈ tables_1, d.before a0 Z = true) (p0 : Int32) (p1 : Int32) (p2 : Int32) (p3 : Int32) (p4 : Int32) (h0 : Heap) (n0 : Nat) (Z0 : n0 ≤ h0.size) :
    Does l Z x code maxLocals ret tables_1 room_1 #[(.int p0), (.int p1), (.int p2), (.int p3), (.int p4)] h0 (fun v h L => v = some (.int 1) ∧ Fr n0 L) := by
  refine Does.of (plainFor_of_name o_pn1) ?_
  intro p e s m below meth c T0 hx hby hml hown hnm hret hlk hZ X0 e0
  have hown : s.vm.findClass "com/example/codicil/codicil/BlobReaderOverPinLaw" = some m.cls := hown
  have hml : c.maxLocals = 10 := hml
  have hret : meth.sig.returnType = some .boolean := hret
  refine o_entry (o_ef15 m p0 p1 p2 p3 p4) ?_
  have N0 := Fr.nil n0
  rcases o_n5 p0 with q | q | q | q | q
  · refine o_iloadN X0 hx (hb hby at_0) (v := p0) rfl (n := 1) rfl ?_
    refine o_bipush X0 hx (hb hby at_1) (v := (7 : Int32)) rfl (n := 3) rfl ?_
    refine o_iand X0 hx (hb hby at_3) (v := (p0 &&& (7 : Int32))) rfl (n := 4) rfl ?_
    refine o_iconst X0 hx (hb hby at_4) (v := (5 : Int32)) rfl (n := 5) rfl ?_
    refine o_irem X0 hx (hb hby at_5) (by decide) (v := (0 : Int32)) q (n := 6) rfl ?_
    refine o_istore X0 hx (hb hby at_6) (Ls' := #[.val (.int p0), .val (.int p1), .val (.int p2), .val (.int p3), .val (.int p4), .val (.int (0 : Int32)), .unset, .unset, .unset, .unset]) rfl (n := 8) rfl ?_
    refine o_iload X0 hx (hb hby at_8) (v := (0 : Int32)) rfl (n := 10) rfl ?_
    refine o_newarray X0 hx hZ (aty := .byte) (hw _ (List.mem_of_getElem? (i := 0) rfl)) e0 (hb hby at_10) (by decide) 0 (by decide) (by decide) (by decide) (by decide) (n := 12) rfl ?_
    intro T1 h1 b1 k1 X1 e1 g1 E1 V1
    have gg1 : n0 ≤ b1 := Nat.le_trans Z0 (Nat.le_of_eq g1.symm)
    have zz1 : n0 ≤ h1.size := Nat.le_trans Z0 E1.1
    have f2 : Arv Z h1 b1 k1 .byte (0 : Int32) [] (.int (0 : Int32)) := V1.pad (pad_rep [] (.int (0 : Int32)) 0)
    refine o_astore X1 hx (hb hby at_12) rfl (Ls' := #[.val (.int p0), .val (.int p1), .val (.int p2), .val (.int p3), .val (.int p4), .val (.int (0 : Int32)), .val (.ref b1), .unset, .unset, .unset]) rfl (n := 14) rfl ?_
    refine o_iload X1 hx (hb hby at_14) (v := (0 : Int32)) rfl (n := 16) rfl ?_
    refine o_ifY X1 hx (hb hby at_16) (XT.i0_le_t (by decide)) (by decide) (n := 25) (by decide) ?_
    refine o_iload X1 hx (hb hby at_25) (v := (0 : Int32)) rfl (n := 27) rfl ?_
    refine o_iconst X1 hx (hb hby at_27) (v := (1 : Int32)) rfl (n := 28) rfl ?_
    refine o_icmpY X1 hx (hb hby at_28) (XT.ii_le_t (by decide)) (by decide) (n := 37) (by decide) ?_
    refine o_iload X1 hx (hb hby at_37) (v := (0 : Int32)) rfl (n := 39) rfl ?_
    refine o_iconst X1 hx (hb hby at_39) (v := (2 : Int32)) rfl (n := 40) rfl ?_
    refine o_icmpY X1 hx (hb hby at_40) (XT.ii_le_t (by decide)) (by decide) (n := 49) (by decide) ?_
    refine o_iload X1 hx (hb hby at_49) (v := (0 : Int32)) rfl (n := 51) rfl ?_
    refine o_iconst X1 hx (hb hby at_51) (v := (3 : Int32)) rfl (n := 52) rfl ?_
    refine o_icmpY X1 hx (hb hby at_52) (XT.ii_le_t (by decide)) (by decide) (n := 62) (by decide) ?_
    refine o_aload X1 hx (hb hby at_62) (v := (.ref b1)) rfl rfl (n := 64) rfl ?_
    refine o_callS X1 hx hZ hown (hw _ (List.mem_of_getElem? (i := 1) rfl)) (hw _ (List.mem_of_getElem? (i := 2) rfl)) (hw _ (List.mem_of_getElem? (i := 3) rfl)) (hw _ (List.mem_of_getElem? (i := 4) rfl)) (by decide) e1 (argsL := [(.ref b1)]) (rest := []) (c_over_0 l Z a0 hw b1 k1 h1 n0 zz1 f2) 0 (by decide) (by decide) (by decide) (by decide) (by rw [hml]; rfl) (lenOf o_pd1 rfl) rfl (Nat.le_of_eq rfl) (hb hby at_64) (n := 67) rfl ?_
    intro v3 T3 L3 X3 q3
    obtain ⟨n1_3, rfl, Nq3, K3, sq3_n1, o3_0, o3_1, o3_2, o3_3, o3_4⟩ := q3
    have N4 := Fr.app N0 Nq3
    have ne5 : b1 ≠ n1_3 := Nat.ne_of_lt (Nat.lt_of_lt_of_le f2.lt sq3_n1)
    have gg3_n1 : n0 ≤ n1_3 := Nat.le_trans zz1 sq3_n1
    have f6 := f2.keep K3 nin0
    have zz3 : n0 ≤ T3.heap.size := Nat.le_trans zz1 K3.1
    show Goes p e below s _ _ _ (T3.setTop (mkF m 67 #[.val (.int p0), .val (.int p1), .val (.int p2), .val (.int p3), .val (.int p4), .val (.int (0 : Int32)), .val (.ref b1), .unset, .unset, .unset] [(.ref n1_3)]))
    refine o_astore X3 hx (hb hby at_67) rfl (Ls' := #[.val (.int p0), .val (.int p1), .val (.int p2), .val (.int p3), .val (.int p4), .val (.int (0 : Int32)), .val (.ref b1), .val (.ref n1_3), .unset, .unset]) rfl (n := 69) rfl ?_
    refine o_aload X3 hx (hb hby at_69) (v := (.ref n1_3)) rfl rfl (n := 71) rfl ?_
    refine o_callV X3 hx hZ hown (hw _ (List.mem_of_getElem? (i := 21) rfl)) (hw _ (List.mem_of_getElem? (i := 22) rfl)) (hw _ (List.mem_of_getElem? (i := 24) rfl)) (hw _ (List.mem_of_getElem? (i := 23) rfl)) (hw _ (List.mem_of_getElem? (i := 3) rfl)) (hw _ (List.mem_of_getElem? (i := 25) rfl)) (by decide) (rfl : T3.heap = T3.heap) o3_0 (argsL := []) (rest := []) (c_position l Z a0 hw n1_3 (0 : Int32) T3.heap o3_4) 0 (by decide) (by decide) (by decide) (by decide) (by rw [hml]; rfl) (lenOf o_pd2 rfl) rfl (Nat.le_of_eq rfl) (hb hby at_71) (n := 74) rfl ?_
    intro v7 T7 L7 X7 q7
    obtain ⟨rfl, e7, rfl⟩ := q7
    have N8 := Fr.app N4 (Fr.nil n0)
    show Goes p e below s _ _ _ (T7.setTop (mkF m 74 #[.val (.int p0), .val (.int p1), .val (.int p2), .val (.int p3), .val (.int p4), .val (.int (0 : Int32)), .val (.ref b1), .val (.ref n1_3), .unset, .unset] [(.int (0 : Int32))]))
    refine o_ifN X7 hx (hb hby at_74) (XT.i0_ne_f (by decide)) (n := 77) rfl ?_
    refine o_aload X7 hx (hb hby at_77) (v := (.ref n1_3)) rfl rfl (n := 79) rfl ?_
    refine o_callV X7 hx hZ hown (hw _ (List.mem_of_getElem? (i := 26) rfl)) (hw _ (List.mem_of_getElem? (i := 27) rfl)) (hw _ (List.mem_of_getElem? (i := 29) rfl)) (hw _ (List.mem_of_getElem? (i := 28) rfl)) (hw _ (List.mem_of_getElem? (i := 3) rfl)) (hw _ (List.mem_of_getElem? (i := 30) rfl)) (by decide) e7 o3_0 (argsL := []) (rest := []) (c_remaining l Z a0 hw n1_3 (0 : Int32) (0 : Int32) T3.heap o3_2 o3_4) 0 (by decide) (by decide) (by decide) (by decide) (by rw [hml]; rfl) (lenOf o_pd2 rfl) rfl (Nat.le_of_eq rfl) (hb hby at_79) (n := 82) rfl ?_
    intro v9 T9 L9 X9 q9
    obtain ⟨rfl, e9, rfl⟩ := q9
    have N10 := Fr.app N8 (Fr.nil n0)
    show Goes p e below s _ _ _ (T9.setTop (mkF m 82 #[.val (.int p0), .val (.int p1), .val (.int p2), .val (.int p3), .val (.int p4), .val (.int (0 : Int32)), .val (.ref b1), .val (.ref n1_3), .unset, .unset] [(.int ((0 : Int32) - (0 : Int32)))]))
    refine o_iload X9 hx (hb hby at_82) (v := (0 : Int32)) rfl (n := 84) rfl ?_
    refine o_icmpN X9 hx (hb hby at_84) (XT.ii_ne_f (by decide)) (n := 87) rfl ?_
    refine o_aload X9 hx (hb hby at_87) (v := (.ref n1_3)) rfl rfl (n := 89) rfl ?_
    refine o_callV X9 hx hZ hown (hw _ (List.mem_of_getElem? (i := 31) rfl)) (hw _ (List.mem_of_getElem? (i := 32) rfl)) (hw _ (List.mem_of_getElem? (i := 34) rfl)) (hw _ (List.mem_of_getElem? (i := 33) rfl)) (hw _ (List.mem_of_getElem? (i := 3) rfl)) (hw _ (List.mem_of_getElem? (i := 35) rfl)) (by decide) e9 o3_0 (argsL := []) (rest := []) (c_kind l Z a0 hw n1_3 (0 : Int32) T3.heap o3_3) 0 (by decide) (by decide) (by decide) (by decide) (by rw [hml]; rfl) (lenOf o_pd2 rfl) rfl (Nat.le_of_eq rfl) (hb hby at_89) (n := 92) rfl ?_
    intro v11 T11 L11 X11 q11
    obtain ⟨rfl, e11, rfl⟩ := q11
    have N12 := Fr.app N10 (Fr.nil n0)
    show Goes p e below s _ _ _ (T11.setTop (mkF m 92 #[.val (.int p0), .val (.int p1), .val (.int p2), .val (.int p3), .val (.int p4), .val (.int (0 : Int32)), .val (.ref b1), .val (.ref n1_3), .unset, .unset] [(.int (0 : Int32))]))
    refine o_ifN X11 hx (hb hby at_92) (XT.i0_ne_f (by decide)) (n := 95) rfl ?_
    refine o_aload X11 hx (hb hby at_95) (v := (.ref n1_3)) rfl rfl (n := 97) rfl ?_
    refine o_callV X11 hx hZ hown (hw _ (List.mem_of_getElem? (i := 36) rfl)) (hw _ (List.mem_of_getElem? (i := 37) rfl)) (hw _ (List.mem_of_getElem? (i := 39) rfl)) (hw _ (List.mem_of_getElem? (i := 38) rfl)) (hw _ (List.mem_of_getElem? (i := 3) rfl)) (hw _ (List.mem_of_getElem? (i := 40) rfl)) (by decide) e11 o3_0 (argsL := []) (rest := []) (c_bytes l Z a0 hw n1_3 b1 T3.heap o3_1) 0 (by decide) (by decide) (by decide) (by decide) (by rw [hml]; rfl) (lenOf o_pd3 rfl) rfl (Nat.le_of_eq rfl) (hb hby at_97) (n := 100) rfl ?_
    intro v13 T13 L13 X13 q13
    obtain ⟨rfl, e13, rfl⟩ := q13
    have N14 := Fr.app N12 (Fr.nil n0)
    show Goes p e below s _ _ _ (T13.setTop (mkF m 100 #[.val (.int p0), .val (.int p1), .val (.int p2), .val (.int p3), .val (.int p4), .val (.int (0 : Int32)), .val (.ref b1), .val (.ref n1_3), .unset, .unset] [(.ref b1)]))
    refine o_aload X13 hx (hb hby at_100) (v := (.ref b1)) rfl rfl (n := 102) rfl ?_
    refine o_acmp X13 hx (hb hby at_102) rfl rfl (same := true) (decide_eq_true rfl) (by decide) (n := 105) (by decide) ?_
    refine o_iconst X13 hx (hb hby at_105) (v := (1 : Int32)) rfl (n := 106) rfl ?_
    refine o_goto X13 hx (hb hby at_106) (by decide) (n := 110) (by decide) ?_
    refine o_istore X13 hx (hb hby at_110) (Ls' := #[.val (.int p0), .val (.int p1), .val (.int p2), .val (.int p3), .val (.int p4), .val (.int (0 : Int32)), .val (.ref b1), .val (.ref n1_3), .val (.int (1 : Int32)), .unset]) rfl (n := 112) rfl ?_
    refine o_iload X13 hx (hb hby at_112) (v := (1 : Int32)) rfl (n := 114) rfl ?_
    refine o_ifY X13 hx (hb hby at_114) (XT.i0_ne_t (by decide)) (by decide) (n := 119) (by decide) ?_
    refine o_iload X13 hx (hb hby at_119) (v := (0 : Int32)) rfl (n := 121) rfl ?_
    refine o_ifN X13 hx (hb hby at_121) (XT.i0_ne_f (by decide)) (n := 124) rfl ?_
    refine o_iconst X13 hx (hb hby at_124) (v := (1 : Int32)) rfl (n := 125) rfl ?_
    exact o_nreturn X13 hx hret hlk (t := .boolean) (by simp) (hb hby at_125) (by decide) (by decide) e13 ⟨rfl, N14⟩
  · refine o_iloadN X0 hx (hb hby at_0) (v := p0) rfl (n := 1) rfl ?_
    refine o_bipush X0 hx (hb hby at_1) (v := (7 : Int32)) rfl (n := 3) rfl ?_
    refine o_iand X0 hx (hb hby at_3) (v := (p0 &&& (7 : Int32))) rfl (n := 4) rfl ?_
    refine o_iconst X0 hx (hb hby at_4) (v := (5 : Int32)) rfl (n := 5) rfl ?_
    refine o_irem X0 hx (hb hby at_5) (by decide) (v := (1 : Int32)) q (n := 6) rfl ?_
    refine o_istore X0 hx (hb hby at_6) (Ls' := #[.val (.int p0), .val (.int p1), .val (.int p2), .val (.int p3), .val (.int p4), .val (.int (1 : Int32)), .unset, .unset, .unset, .unset]) rfl (n := 8) rfl ?_
    refine o_iload X0 hx (hb hby at_8) (v := (1 : Int32)) rfl (n := 10) rfl ?_
    refine o_newarray X0 hx hZ (aty := .byte) (hw _ (List.mem_of_getElem? (i := 0) rfl)) e0 (hb hby at_10) (by decide) 1 (by decide) (by decide) (by decide) (by decide) (n := 12) rfl ?_
    intro T15 h15 b15 k15 X15 e15 g15 E15 V15
    have gg15 : n0 ≤ b15 := Nat.le_trans Z0 (Nat.le_of_eq g15.symm)
    have zz15 : n0 ≤ h15.size := Nat.le_trans Z0 E15.1
    have f16 : Arv Z h15 b15 k15 .byte (1 : Int32) [(.int (0 : Int32))] (.int (0 : Int32)) := V15.pad (pad_rep [] (.int (0 : Int32)) 1)
    refine o_astore X15 hx (hb hby at_12) rfl (Ls' := #[.val (.int p0), .val (.int p1), .val (.int p2), .val (.int p3), .val (.int p4), .val (.int (1 : Int32)), .val (.ref b15), .unset, .unset, .unset]) rfl (n := 14) rfl ?_
    refine o_iload X15 hx (hb hby at_14) (v := (1 : Int32)) rfl (n := 16) rfl ?_
    refine o_ifN X15 hx (hb hby at_16) (XT.i0_le_f (by decide)) (n := 19) rfl ?_
    refine o_aload X15 hx (hb hby at_19) (v := (.ref b15)) rfl rfl (n := 21) rfl ?_
    refine o_iconst X15 hx (hb hby at_21) (v := (0 : Int32)) rfl (n := 22) rfl ?_
    refine o_iloadN X15 hx (hb hby at_22) (v := p1) rfl (n := 23) rfl ?_
    refine o_i2b X15 hx (hb hby at_23) (v := p1.toInt8.toInt32) rfl (n := 24) rfl ?_
    refine o_bastore X15 hx hZ e15 f16 (0) (by decide) (by decide) (Nat.le_of_ble_eq_true rfl) (w := (.int p1.toInt8.toInt32)) (congrArg Value.int (o_nar8 _)) (vs' := [(.int p1.toInt8.toInt32)]) rfl (hb hby at_24) (n := 25) rfl ?_
    intro T17 h17 X17 e17 W17 V17
    have zz17 : n0 ≤ h17.size := Nat.le_trans zz15 (Nat.le_of_eq W17.size.symm)
    have N18 := Fr.snoc X17 N0 gg15
    refine o_iload X17 hx (hb hby at_25) (v := (1 : Int32)) rfl (n := 27) rfl ?_
    refine o_iconst X17 hx (hb hby at_27) (v := (1 : Int32)) rfl (n := 28) rfl ?_
    refine o_icmpY X17 hx (hb hby at_28) (XT.ii_le_t (by decide)) (by decide) (n := 37) (by decide) ?_
    refine o_iload X17 hx (hb hby at_37) (v := (1 : Int32)) rfl (n := 39) rfl ?_
    refine o_iconst X17 hx (hb hby at_39) (v := (2 : Int32)) rfl (n := 40) rfl ?_
    refine o_icmpY X17 hx (hb hby at_40) (XT.ii_le_t (by decide)) (by decide) (n := 49) (by decide) ?_
    refine o_iload X17 hx (hb hby at_49) (v := (1 : Int32)) rfl (n := 51) rfl ?_
    refine o_iconst X17 hx (hb hby at_51) (v := (3 : Int32)) rfl (n := 52) rfl ?_
    refine o_icmpY X17 hx (hb hby at_52) (XT.ii_le_t (by decide)) (by decide) (n := 62) (by decide) ?_
    refine o_aload X17 hx (hb hby at_62) (v := (.ref b15)) rfl rfl (n := 64) rfl ?_
    refine o_callS X17 hx hZ hown (hw _ (List.mem_of_getElem? (i := 1) rfl)) (hw _ (List.mem_of_getElem? (i := 2) rfl)) (hw _ (List.mem_of_getElem? (i := 3) rfl)) (hw _ (List.mem_of_getElem? (i := 4) rfl)) (by decide) e17 (argsL := [(.ref b15)]) (rest := []) (c_over_1 l Z a0 hw b15 k15 p1.toInt8.toInt32 h17 n0 zz17 V17) 0 (by decide) (by decide) (by decide) (by decide) (by rw [hml]; rfl) (lenOf o_pd1 rfl) rfl (Nat.le_of_eq rfl) (hb hby at_64) (n := 67) rfl ?_
    intro v19 T19 L19 X19 q19
    obtain ⟨n1_19, rfl, Nq19, K19, sq19_n1, o19_0, o19_1, o19_2, o19_3, o19_4⟩ := q19
    have N20 := Fr.app N18 Nq19
    have ne21 : b15 ≠ n1_19 := Nat.ne_of_lt (Nat.lt_of_lt_of_le V17.lt sq19_n1)
    have gg19_n1 : n0 ≤ n1_19 := Nat.le_trans zz17 sq19_n1
    have f22 := V17.keep K19 nin0
    have zz19 : n0 ≤ T19.heap.size := Nat.le_trans zz17 K19.1
    show Goes p e below s _ _ _ (T19.setTop (mkF m 67 #[.val (.int p0), .val (.int p1), .val (.int p2), .val (.int p3), .val (.int p4), .val (.int (1 : Int32)), .val (.ref b15), .unset, .unset, .unset] [(.ref n1_19)]))
    refine o_astore X19 hx (hb hby at_67) rfl (Ls' := #[.val (.int p0), .val (.int p1), .val (.int p2), .val (.int p3), .val (.int p4), .val (.int (1 : Int32)), .val (.ref b15), .val (.ref n1_19), .unset, .unset]) rfl (n := 69) rfl ?_
    refine o_aload X19 hx (hb hby at_69) (v := (.ref n1_19)) rfl rfl (n := 71) rfl ?_
    refine o_callV X19 hx hZ hown (hw _ (List.mem_of_getElem? (i := 21) rfl)) (hw _ (List.mem_of_getElem? (i := 22) rfl)) (hw _ (List.mem_of_getElem? (i := 24) rfl)) (hw _ (List.mem_of_getElem? (i := 23) rfl)) (hw _ (List.mem_of_getElem? (i := 3) rfl)) (hw _ (List.mem_of_getElem? (i := 25) rfl)) (by decide) (rfl : T19.heap = T19.heap) o19_0 (argsL := []) (rest := []) (c_position l Z a0 hw n1_19 (0 : Int32) T19.heap o19_4) 0 (by decide) (by decide) (by decide) (by decide) (by rw [hml]; rfl) (lenOf o_pd2 rfl) rfl (Nat.le_of_eq rfl) (hb hby at_71) (n := 74) rfl ?_
    intro v23 T23 L23 X23 q23
    obtain ⟨rfl, e23, rfl⟩ := q23
    have N24 := Fr.app N20 (Fr.nil n0)
    show Goes p e below s _ _ _ (T23.setTop (mkF m 74 #[.val (.int p0), .val (.int p1), .val (.int p2), .val (.int p3), .val (.int p4), .val (.int (1 : Int32)), .val (.ref b15), .val (.ref n1_19), .unset, .unset] [(.int (0 : Int32))]))
    refine o_ifN X23 hx (hb hby at_74) (XT.i0_ne_f (by decide)) (n := 77) rfl ?_
    refine o_aload X23 hx (hb hby at_77) (v := (.ref n1_19)) rfl rfl (n := 79) rfl ?_
    refine o_callV X23 hx hZ hown (hw _ (List.mem_of_getElem? (i := 26) rfl)) (hw _ (List.mem_of_getElem? (i := 27) rfl)) (hw _ (List.mem_of_getElem? (i := 29) rfl)) (hw _ (List.mem_of_getElem? (i := 28) rfl)) (hw _ (List.mem_of_getElem? (i := 3) rfl)) (hw _ (List.mem_of_getElem? (i := 30) rfl)) (by decide) e23 o19_0 (argsL := []) (rest := []) (c_remaining l Z a0 hw n1_19 (1 : Int32) (0 : Int32) T19.heap o19_2 o19_4) 0 (by decide) (by decide) (by decide) (by decide) (by rw [hml]; rfl) (lenOf o_pd2 rfl) rfl (Nat.le_of_eq rfl) (hb hby at_79) (n := 82) rfl ?_
    intro v25 T25 L25 X25 q25
    obtain ⟨rfl, e25, rfl⟩ := q25
    have N26 := Fr.app N24 (Fr.nil n0)
    show Goes p e below s _ _ _ (T25.setTop (mkF m 82 #[.val (.int p0), .val (.int p1), .val (.int p2), .val (.int p3), .val (.int p4), .val (.int (1 : Int32)), .val (.ref b15), .val (.ref n1_19), .unset, .unset] [(.int ((1 : Int32) - (0 : Int32)))]))
    refine o_iload X25 hx (hb hby at_82) (v := (1 : Int32)) rfl (n := 84) rfl ?_
    refine o_icmpN X25 hx (hb hby at_84) (XT.ii_ne_f (by decide)) (n := 87) rfl ?_
    refine o_aload X25 hx (hb hby at_87) (v := (.ref n1_19)) rfl rfl (n := 89) rfl ?_
    refine o_callV X25 hx hZ hown (hw _ (List.mem_of_getElem? (i := 31) rfl)) (hw _ (List.mem_of_getElem? (i := 32) rfl)) (hw _ (List.mem_of_getElem? (i := 34) rfl)) (hw _ (List.mem_of_getElem? (i := 33) rfl)) (hw _ (List.mem_of_getElem? (i := 3) rfl)) (hw _ (List.mem_of_getElem? (i := 35) rfl)) (by decide) e25 o19_0 (argsL := []) (rest := []) (c_kind l Z a0 hw n1_19 (0 : Int32) T19.heap o19_3) 0 (by decide) (by decide) (by decide) (by decide) (by rw [hml]; rfl) (lenOf o_pd2 rfl) rfl (Nat.le_of_eq rfl) (hb hby at_89) (n := 92) rfl ?_
    intro v27 T27 L27 X27 q27
    obtain ⟨rfl, e27, rfl⟩ := q27
    have N28 := Fr.app N26 (Fr.nil n0)
    show Goes p e below s _ _ _ (T27.setTop (mkF m 92 #[.val (.int p0), .val (.int p1), .val (.int p2), .val (.int p3), .val (.int p4), .val (.int (1 : Int32)), .val (.ref b15), .val (.ref n1_19), .unset, .unset] [(.int (0 : Int32))]))
    refine o_ifN X27 hx (hb hby at_92) (XT.i0_ne_f (by decide)) (n := 95) rfl ?_
    refine o_aload X27 hx (hb hby at_95) (v := (.ref n1_19)) rfl rfl (n := 97) rfl ?_
    refine o_callV X27 hx hZ hown (hw _ (List.mem_of_getElem? (i := 36) rfl)) (hw _ (List.mem_of_getElem? (i := 37) rfl)) (hw _ (List.mem_of_getElem? (i := 39) rfl)) (hw _ (List.mem_of_getElem? (i := 38) rfl)) (hw _ (List.mem_of_getElem? (i := 3) rfl)) (hw _ (List.mem_of_getElem? (i := 40) rfl)) (by decide) e27 o19_0 (argsL := []) (rest := []) (c_bytes l Z a0 hw n1_19 b15 T19.heap o19_1) 0 (by decide) (by decide) (by decide) (by decide) (by rw [hml]; rfl) (lenOf o_pd3 rfl) rfl (Nat.le_of_eq rfl) (hb hby at_97) (n := 100) rfl ?_
    intro v29 T29 L29 X29 q29
    obtain ⟨rfl, e29, rfl⟩ := q29
    have N30 := Fr.app N28 (Fr.nil n0)
    show Goes p e below s _ _ _ (T29.setTop (mkF m 100 #[.val (.int p0), .val (.int p1), .val (.int p2), .val (.int p3), .val (.int p4), .val (.int (1 : Int32)), .val (.ref b15), .val (.ref n1_19), .unset, .unset] [(.ref b15)]))
    refine o_aload X29 hx (hb hby at_100) (v := (.ref b15)) rfl rfl (n := 102) rfl ?_
    refine o_acmp X29 hx (hb hby at_102) rfl rfl (same := true) (decide_eq_true rfl) (by decide) (n := 105) (by decide) ?_
    refine o_iconst X29 hx (hb hby at_105) (v := (1 : Int32)) rfl (n := 106) rfl ?_
    refine o_goto X29 hx (hb hby at_106) (by decide) (n := 110) (by decide) ?_
    refine o_istore X29 hx (hb hby at_110) (Ls' := #[.val (.int p0), .val (.int p1), .val (.int p2), .val (.int p3), .val (.int p4), .val (.int (1 : Int32)), .val (.ref b15), .val (.ref n1_19), .val (.int (1 : Int32)), .unset]) rfl (n := 112) rfl ?_
    refine o_iload X29 hx (hb hby at_112) (v := (1 : Int32)) rfl (n := 114) rfl ?_
    refine o_ifY X29 hx (hb hby at_114) (XT.i0_ne_t (by decide)) (by decide) (n := 119) (by decide) ?_
    refine o_iload X29 hx (hb hby at_119) (v := (1 : Int32)) rfl (n := 121) rfl ?_
    refine o_ifY X29 hx (hb hby at_121) (XT.i0_ne_t (by decide)) (by decide) (n := 126) (by decide) ?_
    refine o_aload X29 hx (hb hby at_126) (v := (.ref n1_19)) rfl rfl (n := 128) rfl ?_
    refine o_callV X29 hx hZ hown (hw _ (List.mem_of_getElem? (i := 41) rfl)) (hw _ (List.mem_of_getElem? (i := 42) rfl)) (hw _ (List.mem_of_getElem? (i := 44) rfl)) (hw _ (List.mem_of_getElem? (i := 43) rfl)) (hw _ (List.mem_of_getElem? (i := 3) rfl)) (hw _ (List.mem_of_getElem? (i := 45) rfl)) (by decide) e29 o19_0 (argsL := []) (rest := []) (c_read_1 l Z a0 hw n1_19 b15 k15 p1.toInt8.toInt32 T19.heap n0 zz19 gg19_n1 o19_0 o19_1 o19_2 o19_4 f22 ne21) 0 (by decide) (by decide) (by decide) (by decide) (by rw [hml]; rfl) (lenOf o_pd2 rfl) rfl (Nat.le_of_eq rfl) (hb hby at_128) (n := 131) rfl ?_
    intro v31 T31 L31 X31 q31
    obtain ⟨rfl, Nq31, K31, o31_0, o31_1, o31_2, o31_3⟩ := q31
    have N32 := Fr.app N30 Nq31
    have f33 := f22.keep K31 (ninS ne21 nin0)
    have f34 := o19_0.keep K31
    have zz31 : n0 ≤ T31.heap.size := Nat.le_trans zz19 K31.1
    show Goes p e below s _ _ _ (T31.setTop (mkF m 131 #[.val (.int p0), .val (.int p1), .val (.int p2), .val (.int p3), .val (.int p4), .val (.int (1 : Int32)), .val (.ref b15), .val (.ref n1_19), .val (.int (1 : Int32)), .unset] [(.int (p1.toInt8.toInt32 &&& (255 : Int32)))]))
    refine o_istore X31 hx (hb hby at_131) (Ls' := #[.val (.int p0), .val (.int p1), .val (.int p2), .val (.int p3), .val (.int p4), .val (.int (1 : Int32)), .val (.ref b15), .val (.ref n1_19), .val (.int (1 : Int32)), .val (.int (p1.toInt8.toInt32 &&& (255 : Int32)))]) rfl (n := 133) rfl ?_
    refine o_iload X31 hx (hb hby at_133) (v := (p1.toInt8.toInt32 &&& (255 : Int32))) rfl (n := 135) rfl ?_
    refine o_iloadN X31 hx (hb hby at_135) (v := p1) rfl (n := 136) rfl ?_
    refine o_sipush X31 hx (hb hby at_136) (v := (255 : Int32)) rfl (n := 139) rfl ?_
    refine o_iand X31 hx (hb hby at_139) (v := (p1 &&& (255 : Int32))) rfl (n := 140) rfl ?_
    refine o_icmpN X31 hx (hb hby at_140) (XT.ii_ne_f (o_b255 p1)) (n := 143) rfl ?_
    refine o_aload X31 hx (hb hby at_143) (v := (.ref n1_19)) rfl rfl (n := 145) rfl ?_
    refine o_callV X31 hx hZ hown (hw _ (List.mem_of_getElem? (i := 21) rfl)) (hw _ (List.mem_of_getElem? (i := 22) rfl)) (hw _ (List.mem_of_getElem? (i := 24) rfl)) (hw _ (List.mem_of_getElem? (i := 23) rfl)) (hw _ (List.mem_of_getElem? (i := 3) rfl)) (hw _ (List.mem_of_getElem? (i := 25) rfl)) (by decide) (rfl : T31.heap = T31.heap) o31_0 (argsL := []) (rest := []) (c_position l Z a0 hw n1_19 (1 : Int32) T31.heap o31_3) 0 (by decide) (by decide) (by decide) (by decide) (by rw [hml]; rfl) (lenOf o_pd2 rfl) rfl (Nat.le_of_eq rfl) (hb hby at_145) (n := 148) rfl ?_
    intro v39 T39 L39 X39 q39
    obtain ⟨rfl, e39, rfl⟩ := q39
    have N40 := Fr.app N32 (Fr.nil n0)
    show Goes p e below s _ _ _ (T39.setTop (mkF m 148 #[.val (.int p0), .val (.int p1), .val (.int p2), .val (.int p3), .val (.int p4), .val (.int (1 : Int32)), .val (.ref b15), .val (.ref n1_19), .val (.int (1 : Int32)), .val (.int (p1.toInt8.toInt32 &&& (255 : Int32)))] [(.int (1 : Int32))]))
    refine o_iconst X39 hx (hb hby at_148) (v := (1 : Int32)) rfl (n := 149) rfl ?_
    refine o_icmpN X39 hx (hb hby at_149) (XT.ii_ne_f (by decide)) (n := 152) rfl ?_
    refine o_aload X39 hx (hb hby at_152) (v := (.ref n1_19)) rfl rfl (n := 154) rfl ?_
    refine o_callV X39 hx hZ hown (hw _ (List.mem_of_getElem? (i := 26) rfl)) (hw _ (List.mem_of_getElem? (i := 27) rfl)) (hw _ (List.mem_of_getElem? (i := 29) rfl)) (hw _ (List.mem_of_getElem? (i := 28) rfl)) (hw _ (List.mem_of_getElem? (i := 3) rfl)) (hw _ (List.mem_of_getElem? (i := 30) rfl)) (by decide) e39 o31_0 (argsL := []) (rest := []) (c_remaining l Z a0 hw n1_19 (1 : Int32) (1 : Int32) T31.heap o31_2 o31_3) 0 (by decide) (by decide) (by decide) (by decide) (by rw [hml]; rfl) (lenOf o_pd2 rfl) rfl (Nat.le_of_eq rfl) (hb hby at_154) (n := 157) rfl ?_
    intro v41 T41 L41 X41 q41
    obtain ⟨rfl, e41, rfl⟩ := q41
    have N42 := Fr.app N40 (Fr.nil n0)
    show Goes p e below s _ _ _ (T41.setTop (mkF m 157 #[.val (.int p0), .val (.int p1), .val (.int p2), .val (.int p3), .val (.int p4), .val (.int (1 : Int32)), .val (.ref b15), .val (.ref n1_19), .val (.int (1 : Int32)), .val (.int (p1.toInt8.toInt32 &&& (255 : Int32)))] [(.int ((1 : Int32) - (1 : Int32)))]))
    refine o_iload X41 hx (hb hby at_157) (v := (1 : Int32)) rfl (n := 159) rfl ?_
    refine o_iconst X41 hx (hb hby at_159) (v := (1 : Int32)) rfl (n := 160) rfl ?_
    refine o_isub X41 hx (hb hby at_160) (v := (0 : Int32)) (by decide) (n := 161) rfl ?_
    refine o_icmpN X41 hx (hb hby at_161) (XT.ii_ne_f (by decide)) (n := 164) rfl ?_
    refine o_iconst X41 hx (hb hby at_164) (v := (1 : Int32)) rfl (n := 165) rfl ?_
    refine o_goto X41 hx (hb hby at_165) (by decide) (n := 169) (by decide) ?_
    exact o_nreturn X41 hx hret hlk (t := .boolean) (by simp) (hb hby at_169) (by decide) (by decide) e41 ⟨rfl, N42⟩
  · refine o_iloadN X0 hx (hb hby at_0) (v := p0) rfl (n := 1) rfl ?_
    refine o_bipush X0 hx (hb hby at_1) (v := (7 : Int32)) rfl (n := 3) rfl ?_
    refine o_iand X0 hx (hb hby at_3) (v := (p0 &&& (7 : Int32))) rfl (n := 4) rfl ?_
    refine o_iconst X0 hx (hb hby at_4) (v := (5 : Int32)) rfl (n := 5) rfl ?_
    refine o_irem X0 hx (hb hby at_5) (by decide) (v := (2 : Int32)) q (n := 6) rfl ?_
    refine o_istore X0 hx (hb hby at_6) (Ls' := #[.val (.int p0), .val (.int p1), .val (.int p2), .val (.int p3), .val (.int p4), .val (.int (2 : Int32)), .unset, .unset, .unset, .unset]) rfl (n := 8) rfl ?_
    refine o_iload X0 hx (hb hby at_8) (v := (2 : Int32)) rfl (n := 10) rfl ?_
    refine o_newarray X0 hx hZ (aty := .byte) (hw _ (List.mem_of_getElem? (i := 0) rfl)) e0 (hb hby at_10) (by decide) 2 (by decide) (by decide) (by decide) (by decide) (n := 12) rfl ?_
    intro T43 h43 b43 k43 X43 e43 g43 E43 V43
    have gg43 : n0 ≤ b43 := Nat.le_trans Z0 (Nat.le_of_eq g43.symm)
    have zz43 : n0 ≤ h43.size := Nat.le_trans Z0 E43.1
    have f44 : Arv Z h43 b43 k43 .byte (2 : Int32) [(.int (0 : Int32)), (.int (0 : Int32))] (.int (0 : Int32)) := V43.pad (pad_rep [] (.int (0 : Int32)) 2)
    refine o_astore X43 hx (hb hby at_12) rfl (Ls' := #[.val (.int p0), .val (.int p1), .val (.int p2), .val (.int p3), .val (.int p4), .val (.int (2 : Int32)), .val (.ref b43), .unset, .unset, .unset]) rfl (n := 14) rfl ?_
    refine o_iload X43 hx (hb hby at_14) (v := (2 : Int32)) rfl (n := 16) rfl ?_
    refine o_ifN X43 hx (hb hby at_16) (XT.i0_le_f (by decide)) (n := 19) rfl ?_
    refine o_aload X43 hx (hb hby at_19) (v := (.ref b43)) rfl rfl (n := 21) rfl ?_
    refine o_iconst X43 hx (hb hby at_21) (v := (0 : Int32)) rfl (n := 22) rfl ?_
    refine o_iloadN X43 hx (hb hby at_22) (v := p1) rfl (n := 23) rfl ?_
    refine o_i2b X43 hx (hb hby at_23) (v := p1.toInt8.toInt32) rfl (n := 24) rfl ?_
    refine o_bastore X43 hx hZ e43 f44 (0) (by decide) (by decide) (Nat.le_of_ble_eq_true rfl) (w := (.int p1.toInt8.toInt32)) (congrArg Value.int (o_nar8 _)) (vs' := [(.int p1.toInt8.toInt32), (.int (0 : Int32))]) rfl (hb hby at_24) (n := 25) rfl ?_
    intro T45 h45 X45 e45 W45 V45
    have zz45 : n0 ≤ h45.size := Nat.le_trans zz43 (Nat.le_of_eq W45.size.symm)
    have N46 := Fr.snoc X45 N0 gg43
    refine o_iload X45 hx (hb hby at_25) (v := (2 : Int32)) rfl (n := 27) rfl ?_
    refine o_iconst X45 hx (hb hby at_27) (v := (1 : Int32)) rfl (n := 28) rfl ?_
    refine o_icmpN X45 hx (hb hby at_28) (XT.ii_le_f (by decide)) (n := 31) rfl ?_
    refine o_aload X45 hx (hb hby at_31) (v := (.ref b43)) rfl rfl (n := 33) rfl ?_
    refine o_iconst X45 hx (hb hby at_33) (v := (1 : Int32)) rfl (n := 34) rfl ?_
    refine o_iloadN X45 hx (hb hby at_34) (v := p2) rfl (n := 35) rfl ?_
    refine o_i2b X45 hx (hb hby at_35) (v := p2.toInt8.toInt32) rfl (n := 36) rfl ?_
    refine o_bastore X45 hx hZ e45 V45 (1) (by decide) (by decide) (Nat.le_of_ble_eq_true rfl) (w := (.int p2.toInt8.toInt32)) (congrArg Value.int (o_nar8 _)) (vs' := [(.int p1.toInt8.toInt32), (.int p2.toInt8.toInt32)]) rfl (hb hby at_36) (n := 37) rfl ?_
    intro T47 h47 X47 e47 W47 V47
    have zz47 : n0 ≤ h47.size := Nat.le_trans zz45 (Nat.le_of_eq W47.size.symm)
    have N48 := Fr.snoc X47 N46 gg43
    refine o_iload X47 hx (hb hby at_37) (v := (2 : Int32)) rfl (n := 39) rfl ?_
    refine o_iconst X47 hx (hb hby at_39) (v := (2 : Int32)) rfl (n := 40) rfl ?_
    refine o_icmpY X47 hx (hb hby at_40) (XT.ii_le_t (by decide)) (by decide) (n := 49) (by decide) ?_
    refine o_iload X47 hx (hb hby at_49) (v := (2 : Int32)) rfl (n := 51) rfl ?_
    refine o_iconst X47 hx (hb hby at_51) (v := (3 : Int32)) rfl (n := 52) rfl ?_
    refine o_icmpY X47 hx (hb hby at_52) (XT.ii_le_t (by decide)) (by decide) (n := 62) (by decide) ?_
    refine o_aload X47 hx (hb hby at_62) (v := (.ref b43)) rfl rfl (n := 64) rfl ?_
    refine o_callS X47 hx hZ hown (hw _ (List.mem_of_getElem? (i := 1) rfl)) (hw _ (List.mem_of_getElem? (i := 2) rfl)) (hw _ (List.mem_of_getElem? (i := 3) rfl)) (hw _ (List.mem_of_getElem? (i := 4) rfl)) (by decide) e47 (argsL := [(.ref b43)]) (rest := []) (c_over_2 l Z a0 hw b43 k43 p1.toInt8.toInt32 p2.toInt8.toInt32 h47 n0 zz47 V47) 0 (by decide) (by decide) (by decide) (by decide) (by rw [hml]; rfl) (lenOf o_pd1 rfl) rfl (Nat.le_of_eq rfl) (hb hby at_64) (n := 67) rfl ?_
    intro v49 T49 L49 X49 q49
    obtain ⟨n1_49, rfl, Nq49, K49, sq49_n1, o49_0, o49_1, o49_2, o49_3, o49_4⟩ := q49
    have N50 := Fr.app N48 Nq49
    have ne51 : b43 ≠ n1_49 := Nat.ne_of_lt (Nat.lt_of_lt_of_le V47.lt sq49_n1)
    have gg49_n1 : n0 ≤ n1_49 := Nat.le_trans zz47 sq49_n1
    have f52 := V47.keep K49 nin0
    have zz49 : n0 ≤ T49.heap.size := Nat.le_trans zz47 K49.1
    show Goes p e below s _ _ _ (T49.setTop (mkF m 67 #[.val (.int p0), .val (.int p1), .val (.int p2), .val (.int p3), .val (.int p4), .val (.int (2 : Int32)), .val (.ref b43), .unset, .unset, .unset] [(.ref n1_49)]))
    refine o_astore X49 hx (hb hby at_67) rfl (Ls' := #[.val (.int p0), .val (.int p1), .val (.int p2), .val (.int p3), .val (.int p4), .val (.int (2 : Int32)), .val (.ref b43), .val (.ref n1_49), .unset, .unset]) rfl (n := 69) rfl ?_
    refine o_aload X49 hx (hb hby at_69) (v := (.ref n1_49)) rfl rfl (n := 71) rfl ?_
    refine o_callV X49 hx hZ hown (hw _ (List.mem_of_getElem? (i := 21) rfl)) (hw _ (List.mem_of_getElem? (i := 22) rfl)) (hw _ (List.mem_of_getElem? (i := 24) rfl)) (hw _ (List.mem_of_getElem? (i := 23) rfl)) (hw _ (List.mem_of_getElem? (i := 3) rfl)) (hw _ (List.mem_of_getElem? (i := 25) rfl)) (by decide) (rfl : T49.heap = T49.heap) o49_0 (argsL := []) (rest := []) (c_position l Z a0 hw n1_49 (0 : Int32) T49.heap o49_4) 0 (by decide) (by decide) (by decide) (by decide) (by rw [hml]; rfl) (lenOf o_pd2 rfl) rfl (Nat.le_of_eq rfl) (hb hby at_71) (n := 74) rfl ?_
    intro v53 T53 L53 X53 q53
    obtain ⟨rfl, e53, rfl⟩ := q53
    have N54 := Fr.app N50 (Fr.nil n0)
    show Goes p e below s _ _ _ (T53.setTop (mkF m 74 #[.val (.int p0), .val (.int p1), .val (.int p2), .val (.int p3), .val (.int p4), .val (.int (2 : Int32)), .val (.ref b43), .val (.ref n1_49), .unset, .unset] [(.int (0 : Int32))]))
    refine o_ifN X53 hx (hb hby at_74) (XT.i0_ne_f (by decide)) (n := 77) rfl ?_
    refine o_aload X53 hx (hb hby at_77) (v := (.ref n1_49)) rfl rfl (n := 79) rfl ?_
    refine o_callV X53 hx hZ hown (hw _ (List.mem_of_getElem? (i := 26) rfl)) (hw _ (List.mem_of_getElem? (i := 27) rfl)) (hw _ (List.mem_of_getElem? (i := 29) rfl)) (hw _ (List.mem_of_getElem? (i := 28) rfl)) (hw _ (List.mem_of_getElem? (i := 3) rfl)) (hw _ (List.mem_of_getElem? (i := 30) rfl)) (by decide) e53 o49_0 (argsL := []) (rest := []) (c_remaining l Z a0 hw n1_49 (2 : Int32) (0 : Int32) T49.heap o49_2 o49_4) 0 (by decide) (by decide) (by decide) (by decide) (by rw [hml]; rfl) (lenOf o_pd2 rfl) rfl (Nat.le_of_eq rfl) (hb hby at_79) (n := 82) rfl ?_
    intro v55 T55 L55 X55 q55
    obtain ⟨rfl, e55, rfl⟩ := q55
    have N56 := Fr.app N54 (Fr.nil n0)
    show Goes p e below s _ _ _ (T55.setTop (mkF m 82 #[.val (.int p0), .val (.int p1), .val (.int p2), .val (.int p3), .val (.int p4), .val (.int (2 : Int32)), .val (.ref b43), .val (.ref n1_49), .unset, .unset] [(.int ((2 : Int32) - (0 : Int32)))]))
    refine o_iload X55 hx (hb hby at_82) (v := (2 : Int32)) rfl (n := 84) rfl ?_
    refine o_icmpN X55 hx (hb hby at_84) (XT.ii_ne_f (by decide)) (n := 87) rfl ?_
    refine o_aload X55 hx (hb hby at_87) (v := (.ref n1_49)) rfl rfl (n := 89) rfl ?_
    refine o_callV X55 hx hZ hown (hw _ (List.mem_of_getElem? (i := 31) rfl)) (hw _ (List.mem_of_getElem? (i := 32) rfl)) (hw _ (List.mem_of_getElem? (i := 34) rfl)) (hw _ (List.mem_of_getElem? (i := 33) rfl)) (hw _ (List.mem_of_getElem? (i := 3) rfl)) (hw _ (List.mem_of_getElem? (i := 35) rfl)) (by decide) e55 o49_0 (argsL := []) (rest := []) (c_kind l Z a0 hw n1_49 (0 : Int32) T49.heap o49_3) 0 (by decide) (by decide) (by decide) (by decide) (by rw [hml]; rfl) (lenOf o_pd2 rfl) rfl (Nat.le_of_eq rfl) (hb hby at_89) (n := 92) rfl ?_
    intro v57 T57 L57 X57 q57
    obtain ⟨rfl, e57, rfl⟩ := q57
    have N58 := Fr.app N56 (Fr.nil n0)
    show Goes p e below s _ _ _ (T57.setTop (mkF m 92 #[.val (.int p0), .val (.int p1), .val (.int p2), .val (.int p3), .val (.int p4), .val (.int (2 : Int32)), .val (.ref b43), .val (.ref n1_49), .unset, .unset] [(.int (0 : Int32))]))
    refine o_ifN X57 hx (hb hby at_92) (XT.i0_ne_f (by decide)) (n := 95) rfl ?_
    refine o_aload X57 hx (hb hby at_95) (v := (.ref n1_49)) rfl rfl (n := 97) rfl ?_
    refine o_callV X57 hx hZ hown (hw _ (List.mem_of_getElem? (i := 36) rfl)) (hw _ (List.mem_of_getElem? (i := 37) rfl)) (hw _ (List.mem_of_getElem? (i := 39) rfl)) (hw _ (List.mem_of_getElem? (i := 38) rfl)) (hw _ (List.mem_of_getElem? (i := 3) rfl)) (hw _ (List.mem_of_getElem? (i := 40) rfl)) (by decide) e57 o49_0 (argsL := []) (rest := []) (c_bytes l Z a0 hw n1_49 b43 T49.heap o49_1) 0 (by decide) (by decide) (by decide) (by decide) (by rw [hml]; rfl) (lenOf o_pd3 rfl) rfl (Nat.le_of_eq rfl) (hb hby at_97) (n := 100) rfl ?_
    intro v59 T59 L59 X59 q59
    obtain ⟨rfl, e59, rfl⟩ := q59
    have N60 := Fr.app N58 (Fr.nil n0)
    show Goes p e below s _ _ _ (T59.setTop (mkF m 100 #[.val (.int p0), .val (.int p1), .val (.int p2), .val (.int p3), .val (.int p4), .val (.int (2 : Int32)), .val (.ref b43), .val (.ref n1_49), .unset, .unset] [(.ref b43)]))
    refine o_aload X59 hx (hb hby at_100) (v := (.ref b43)) rfl rfl (n := 102) rfl ?_
    refine o_acmp X59 hx (hb hby at_102) rfl rfl (same := true) (decide_eq_true rfl) (by decide) (n := 105) (by decide) ?_
    refine o_iconst X59 hx (hb hby at_105) (v := (1 : Int32)) rfl (n := 106) rfl ?_
    refine o_goto X59 hx (hb hby at_106) (by decide) (n := 110) (by decide) ?_
    refine o_istore X59 hx (hb hby at_110) (Ls' := #[.val (.int p0), .val (.int p1), .val (.int p2), .val (.int p3), .val (.int p4), .val (.int (2 : Int32)), .val (.ref b43), .val (.ref n1_49), .val (.int (1 : Int32)), .unset]) rfl (n := 112) rfl ?_
    refine o_iload X59 hx (hb hby at_112) (v := (1 : Int32)) rfl (n := 114) rfl ?_
    refine o_ifY X59 hx (hb hby at_114) (XT.i0_ne_t (by decide)) (by decide) (n := 119) (by decide) ?_
    refine o_iload X59 hx (hb hby at_119) (v := (2 : Int32)) rfl (n := 121) rfl ?_
    refine o_ifY X59 hx (hb hby at_121) (XT.i0_ne_t (by decide)) (by decide) (n := 126) (by decide) ?_
    refine o_aload X59 hx (hb hby at_126) (v := (.ref n1_49)) rfl rfl (n := 128) rfl ?_
    refine o_callV X59 hx hZ hown (hw _ (List.mem_of_getElem? (i := 41) rfl)) (hw _ (List.mem_of_getElem? (i := 42) rfl)) (hw _ (List.mem_of_getElem? (i := 44) rfl)) (hw _ (List.mem_of_getElem? (i := 43) rfl)) (hw _ (List.mem_of_getElem? (i := 3) rfl)) (hw _ (List.mem_of_getElem? (i := 45) rfl)) (by decide) e59 o49_0 (argsL := []) (rest := []) (c_read_2 l Z a0 hw n1_49 b43 k43 p1.toInt8.toInt32 p2.toInt8.toInt32 T49.heap n0 zz49 gg49_n1 o49_0 o49_1 o49_2 o49_4 f52 ne51) 0 (by decide) (by decide) (by decide) (by decide) (by rw [hml]; rfl) (lenOf o_pd2 rfl) rfl (Nat.le_of_eq rfl) (hb hby at_128) (n := 131) rfl ?_
    intro v61 T61 L61 X61 q61
    obtain ⟨rfl, Nq61, K61, o61_0, o61_1, o61_2, o61_3⟩ := q61
    have N62 := Fr.app N60 Nq61
    have f63 := f52.keep K61 (ninS ne51 nin0)
    have f64 := o49_0.keep K61
    have zz61 : n0 ≤ T61.heap.size := Nat.le_trans zz49 K61.1
    show Goes p e below s _ _ _ (T61.setTop (mkF m 131 #[.val (.int p0), .val (.int p1), .val (.int p2), .val (.int p3), .val (.int p4), .val (.int (2 : Int32)), .val (.ref b43), .val (.ref n1_49), .val (.int (1 : Int32)), .unset] [(.int (p1.toInt8.toInt32 &&& (255 : Int32)))]))
    refine o_istore X61 hx (hb hby at_131) (Ls' := #[.val (.int p0), .val (.int p1), .val (.int p2), .val (.int p3), .val (.int p4), .val (.int (2 : Int32)), .val (.ref b43), .val (.ref n1_49), .val (.int (1 : Int32)), .val (.int (p1.toInt8.toInt32 &&& (255 : Int32)))]) rfl (n := 133) rfl ?_
    refine o_iload X61 hx (hb hby at_133) (v := (p1.toInt8.toInt32 &&& (255 : Int32))) rfl (n := 135) rfl ?_
    refine o_iloadN X61 hx (hb hby at_135) (v := p1) rfl (n := 136) rfl ?_
    refine o_sipush X61 hx (hb hby at_136) (v := (255 : Int32)) rfl (n := 139) rfl ?_
    refine o_iand X61 hx (hb hby at_139) (v := (p1 &&& (255 : Int32))) rfl (n := 140) rfl ?_
    refine o_icmpN X61 hx (hb hby at_140) (XT.ii_ne_f (o_b255 p1)) (n := 143) rfl ?_
    refine o_aload X61 hx (hb hby at_143) (v := (.ref n1_49)) rfl rfl (n := 145) rfl ?_
    refine o_callV X61 hx hZ hown (hw _ (List.mem_of_getElem? (i := 21) rfl)) (hw _ (List.mem_of_getElem? (i := 22) rfl)) (hw _ (List.mem_of_getElem? (i := 24) rfl)) (hw _ (List.mem_of_getElem? (i := 23) rfl)) (hw _ (List.mem_of_getElem? (i := 3) rfl)) (hw _ (List.mem_of_getElem? (i := 25) rfl)) (by decide) (rfl : T61.heap = T61.heap) o61_0 (argsL := []) (rest := []) (c_position l Z a0 hw n1_49 (1 : Int32) T61.heap o61_3) 0 (by decide) (by decide) (by decide) (by decide) (by rw [hml]; rfl) (lenOf o_pd2 rfl) rfl (Nat.le_of_eq rfl) (hb hby at_145) (n := 148) rfl ?_
    intro v69 T69 L69 X69 q69
    obtain ⟨rfl, e69, rfl⟩ := q69
    have N70 := Fr.app N62 (Fr.nil n0)
    show Goes p e below s _ _ _ (T69.setTop (mkF m 148 #[.val (.int p0), .val (.int p1), .val (.int p2), .val (.int p3), .val (.int p4), .val (.int (2 : Int32)), .val (.ref b43), .val (.ref n1_49), .val (.int (1 : Int32)), .val (.int (p1.toInt8.toInt32 &&& (255 : Int32)))] [(.int (1 : Int32))]))
    refine o_iconst X69 hx (hb hby at_148) (v := (1 : Int32)) rfl (n := 149) rfl ?_
    refine o_icmpN X69 hx (hb hby at_149) (XT.ii_ne_f (by decide)) (n := 152) rfl ?_
    refine o_aload X69 hx (hb hby at_152) (v := (.ref n1_49)) rfl rfl (n := 154) rfl ?_
    refine o_callV X69 hx hZ hown (hw _ (List.mem_of_getElem? (i := 26) rfl)) (hw _ (List.mem_of_getElem? (i := 27) rfl)) (hw _ (List.mem_of_getElem? (i := 29) rfl)) (hw _ (List.mem_of_getElem? (i := 28) rfl)) (hw _ (List.mem_of_getElem? (i := 3) rfl)) (hw _ (List.mem_of_getElem? (i := 30) rfl)) (by decide) e69 o61_0 (argsL := []) (rest := []) (c_remaining l Z a0 hw n1_49 (2 : Int32) (1 : Int32) T61.heap o61_2 o61_3) 0 (by decide) (by decide) (by decide) (by decide) (by rw [hml]; rfl) (lenOf o_pd2 rfl) rfl (Nat.le_of_eq rfl) (hb hby at_154) (n := 157) rfl ?_
    intro v71 T71 L71 X71 q71
    obtain ⟨rfl, e71, rfl⟩ := q71
    have N72 := Fr.app N70 (Fr.nil n0)
    show Goes p e below s _ _ _ (T71.setTop (mkF m 157 #[.val (.int p0), .val (.int p1), .val (.int p2), .val (.int p3), .val (.int p4), .val (.int (2 : Int32)), .val (.ref b43), .val (.ref n1_49), .val (.int (1 : Int32)), .val (.int (p1.toInt8.toInt32 &&& (255 : Int32)))] [(.int ((2 : Int32) - (1 : Int32)))]))
    refine o_iload X71 hx (hb hby at_157) (v := (2 : Int32)) rfl (n := 159) rfl ?_
    refine o_iconst X71 hx (hb hby at_159) (v := (1 : Int32)) rfl (n := 160) rfl ?_
    refine o_isub X71 hx (hb hby at_160) (v := (1 : Int32)) (by decide) (n := 161) rfl ?_
    refine o_icmpN X71 hx (hb hby at_161) (XT.ii_ne_f (by decide)) (n := 164) rfl ?_
    refine o_iconst X71 hx (hb hby at_164) (v := (1 : Int32)) rfl (n := 165) rfl ?_
    refine o_goto X71 hx (hb hby at_165) (by decide) (n := 169) (by decide) ?_
    exact o_nreturn X71 hx hret hlk (t := .boolean) (by simp) (hb hby at_169) (by decide) (by decide) e71 ⟨rfl, N72⟩
  · refine o_iloadN X0 hx (hb hby at_0) (v := p0) rfl (n := 1) rfl ?_
    refine o_bipush X0 hx (hb hby at_1) (v := (7 : Int32)) rfl (n := 3) rfl ?_
    refine o_iand X0 hx (hb hby at_3) (v := (p0 &&& (7 : Int32))) rfl (n := 4) rfl ?_
    refine o_iconst X0 hx (hb hby at_4) (v := (5 : Int32)) rfl (n := 5) rfl ?_
    refine o_irem X0 hx (hb hby at_5) (by decide) (v := (3 : Int32)) q (n := 6) rfl ?_
    refine o_istore X0 hx (hb hby at_6) (Ls' := #[.val (.int p0), .val (.int p1), .val (.int p2), .val (.int p3), .val (.int p4), .val (.int (3 : Int32)), .unset, .unset, .unset, .unset]) rfl (n := 8) rfl ?_
    refine o_iload X0 hx (hb hby at_8) (v := (3 : Int32)) rfl (n := 10) rfl ?_
    refine o_newarray X0 hx hZ (aty := .byte) (hw _ (List.mem_of_getElem? (i := 0) rfl)) e0 (hb hby at_10) (by decide) 3 (by decide) (by decide) (by decide) (by decide) (n := 12) rfl ?_
    intro T73 h73 b73 k73 X73 e73 g73 E73 V73
    have gg73 : n0 ≤ b73 := Nat.le_trans Z0 (Nat.le_of_eq g73.symm)
    have zz73 : n0 ≤ h73.size := Nat.le_trans Z0 E73.1
    have f74 : Arv Z h73 b73 k73 .byte (3 : Int32) [(.int (0 : Int32)), (.int (0 : Int32)), (.int (0 : Int32))] (.int (0 : Int32)) := V73.pad (pad_rep [] (.int (0 : Int32)) 3)
    refine o_astore X73 hx (hb hby at_12) rfl (Ls' := #[.val (.int p0), .val (.int p1), .val (.int p2), .val (.int p3), .val (.int p4), .val (.int (3 : Int32)), .val (.ref b73), .unset, .unset, .unset]) rfl (n := 14) rfl ?_
    refine o_iload X73 hx (hb hby at_14) (v := (3 : Int32)) rfl (n := 16) rfl ?_
    refine o_ifN X73 hx (hb hby at_16) (XT.i0_le_f (by decide)) (n := 19) rfl ?_
    refine o_aload X73 hx (hb hby at_19) (v := (.ref b73)) rfl rfl (n := 21) rfl ?_
    refine o_iconst X73 hx (hb hby at_21) (v := (0 : Int32)) rfl (n := 22) rfl ?_
    refine o_iloadN X73 hx (hb hby at_22) (v := p1) rfl (n := 23) rfl ?_
    refine o_i2b X73 hx (hb hby at_23) (v := p1.toInt8.toInt32) rfl (n := 24) rfl ?_
    refine o_bastore X73 hx hZ e73 f74 (0) (by decide) (by decide) (Nat.le_of_ble_eq_true rfl) (w := (.int p1.toInt8.toInt32)) (congrArg Value.int (o_nar8 _)) (vs' := [(.int p1.toInt8.toInt32), (.int (0 : Int32)), (.int (0 : Int32))]) rfl (hb hby at_24) (n := 25) rfl ?_
    intro T75 h75 X75 e75 W75 V75
    have zz75 : n0 ≤ h75.size := Nat.le_trans zz73 (Nat.le_of_eq W75.size.symm)
    have N76 := Fr.snoc X75 N0 gg73
    refine o_iload X75 hx (hb hby at_25) (v := (3 : Int32)) rfl (n := 27) rfl ?_
    refine o_iconst X75 hx (hb hby at_27) (v := (1 : Int32)) rfl (n := 28) rfl ?_
    refine o_icmpN X75 hx (hb hby at_28) (XT.ii_le_f (by decide)) (n := 31) rfl ?_
    refine o_aload X75 hx (hb hby at_31) (v := (.ref b73)) rfl rfl (n := 33) rfl ?_
    refine o_iconst X75 hx (hb hby at_33) (v := (1 : Int32)) rfl (n := 34) rfl ?_
    refine o_iloadN X75 hx (hb hby at_34) (v := p2) rfl (n := 35) rfl ?_
    refine o_i2b X75 hx (hb hby at_35) (v := p2.toInt8.toInt32) rfl (n := 36) rfl ?_
    refine o_bastore X75 hx hZ e75 V75 (1) (by decide) (by decide) (Nat.le_of_ble_eq_true rfl) (w := (.int p2.toInt8.toInt32)) (congrArg Value.int (o_nar8 _)) (vs' := [(.int p1.toInt8.toInt32), (.int p2.toInt8.toInt32), (.int (0 : Int32))]) rfl (hb hby at_36) (n := 37) rfl ?_
    intro T77 h77 X77 e77 W77 V77
    have zz77 : n0 ≤ h77.size := Nat.le_trans zz75 (Nat.le_of_eq W77.size.symm)
    have N78 := Fr.snoc X77 N76 gg73
    refine o_iload X77 hx (hb hby at_37) (v := (3 : Int32)) rfl (n := 39) rfl ?_
    refine o_iconst X77 hx (hb hby at_39) (v := (2 : Int32)) rfl (n := 40) rfl ?_
    refine o_icmpN X77 hx (hb hby at_40) (XT.ii_le_f (by decide)) (n := 43) rfl ?_
    refine o_aload X77 hx (hb hby at_43) (v := (.ref b73)) rfl rfl (n := 45) rfl ?_
    refine o_iconst X77 hx (hb hby at_45) (v := (2 : Int32)) rfl (n := 46) rfl ?_
    refine o_iloadN X77 hx (hb hby at_46) (v := p3) rfl (n := 47) rfl ?_
    refine o_i2b X77 hx (hb hby at_47) (v := p3.toInt8.toInt32) rfl (n := 48) rfl ?_
    refine o_bastore X77 hx hZ e77 V77 (2) (by decide) (by decide) (Nat.le_of_ble_eq_true rfl) (w := (.int p3.toInt8.toInt32)) (congrArg Value.int (o_nar8 _)) (vs' := [(.int p1.toInt8.toInt32), (.int p2.toInt8.toInt32), (.int p3.toInt8.toInt32)]) rfl (hb hby at_48) (n := 49) rfl ?_
    intro T79 h79 X79 e79 W79 V79
    have zz79 : n0 ≤ h79.size := Nat.le_trans zz77 (Nat.le_of_eq W79.size.symm)
    have N80 := Fr.snoc X79 N78 gg73
    refine o_iload X79 hx (hb hby at_49) (v := (3 : Int32)) rfl (n := 51) rfl ?_
    refine o_iconst X79 hx (hb hby at_51) (v := (3 : Int32)) rfl (n := 52) rfl ?_
    refine o_icmpY X79 hx (hb hby at_52) (XT.ii_le_t (by decide)) (by decide) (n := 62) (by decide) ?_
    refine o_aload X79 hx (hb hby at_62) (v := (.ref b73)) rfl rfl (n := 64) rfl ?_
    refine o_callS X79 hx hZ hown (hw _ (List.mem_of_getElem? (i := 1) rfl)) (hw _ (List.mem_of_getElem? (i := 2) rfl)) (hw _ (List.mem_of_getElem? (i := 3) rfl)) (hw _ (List.mem_of_getElem? (i := 4) rfl)) (by decide) e79 (argsL := [(.ref b73)]) (rest := []) (c_over_3 l Z a0 hw b73 k73 p1.toInt8.toInt32 p2.toInt8.toInt32 p3.toInt8.toInt32 h79 n0 zz79 V79) 0 (by decide) (by decide) (by decide) (by decide) (by rw [hml]; rfl) (lenOf o_pd1 rfl) rfl (Nat.le_of_eq rfl) (hb hby at_64) (n := 67) rfl ?_
    intro v81 T81 L81 X81 q81
    obtain ⟨n1_81, rfl, Nq81, K81, sq81_n1, o81_0, o81_1, o81_2, o81_3, o81_4⟩ := q81
    have N82 := Fr.app N80 Nq81
    have ne83 : b73 ≠ n1_81 := Nat.ne_of_lt (Nat.lt_of_lt_of_le V79.lt sq81_n1)
    have gg81_n1 : n0 ≤ n1_81 := Nat.le_trans zz79 sq81_n1
    have f84 := V79.keep K81 nin0
    have zz81 : n0 ≤ T81.heap.size := Nat.le_trans zz79 K81.1
    show Goes p e below s _ _ _ (T81.setTop (mkF m 67 #[.val (.int p0), .val (.int p1), .val (.int p2), .val (.int p3), .val (.int p4), .val (.int (3 : Int32)), .val (.ref b73), .unset, .unset, .unset] [(.ref n1_81)]))
    refine o_astore X81 hx (hb hby at_67) rfl (Ls' := #[.val (.int p0), .val (.int p1), .val (.int p2), .val (.int p3), .val (.int p4), .val (.int (3 : Int32)), .val (.ref b73), .val (.ref n1_81), .unset, .unset]) rfl (n := 69) rfl ?_
    refine o_aload X81 hx (hb hby at_69) (v := (.ref n1_81)) rfl rfl (n := 71) rfl ?_
    refine o_callV X81 hx hZ hown (hw _ (List.mem_of_getElem? (i := 21) rfl)) (hw _ (List.mem_of_getElem? (i := 22) rfl)) (hw _ (List.mem_of_getElem? (i := 24) rfl)) (hw _ (List.mem_of_getElem? (i := 23) rfl)) (hw _ (List.mem_of_getElem? (i := 3) rfl)) (hw _ (List.mem_of_getElem? (i := 25) rfl)) (by decide) (rfl : T81.heap = T81.heap) o81_0 (argsL := []) (rest := []) (c_position l Z a0 hw n1_81 (0 : Int32) T81.heap o81_4) 0 (by decide) (by decide) (by decide) (by decide) (by rw [hml]; rfl) (lenOf o_pd2 rfl) rfl (Nat.le_of_eq rfl) (hb hby at_71) (n := 74) rfl ?_
    intro v85 T85 L85 X85 q85
    obtain ⟨rfl, e85, rfl⟩ := q85
    have N86 := Fr.app N82 (Fr.nil n0)
    show Goes p e below s _ _ _ (T85.setTop (mkF m 74 #[.val (.int p0), .val (.int p1), .val (.int p2), .val (.int p3), .val (.int p4), .val (.int (3 : Int32)), .val (.ref b73), .val (.ref n1_81), .unset, .unset] [(.int (0 : Int32))]))
    refine o_ifN X85 hx (hb hby at_74) (XT.i0_ne_f (by decide)) (n := 77) rfl ?_
    refine o_aload X85 hx (hb hby at_77) (v := (.ref n1_81)) rfl rfl (n := 79) rfl ?_
    refine o_callV X85 hx hZ hown (hw _ (List.mem_of_getElem? (i := 26) rfl)) (hw _ (List.mem_of_getElem? (i := 27) rfl)) (hw _ (List.mem_of_getElem? (i := 29) rfl)) (hw _ (List.mem_of_getElem? (i := 28) rfl)) (hw _ (List.mem_of_getElem? (i := 3) rfl)) (hw _ (List.mem_of_getElem? (i := 30) rfl)) (by decide) e85 o81_0 (argsL := []) (rest := []) (c_remaining l Z a0 hw n1_81 (3 : Int32) (0 : Int32) T81.heap o81_2 o81_4) 0 (by decide) (by decide) (by decide) (by decide) (by rw [hml]; rfl) (lenOf o_pd2 rfl) rfl (Nat.le_of_eq rfl) (hb hby at_79) (n := 82) rfl ?_
    intro v87 T87 L87 X87 q87
    obtain ⟨rfl, e87, rfl⟩ := q87
    have N88 := Fr.app N86 (Fr.nil n0)
    show Goes p e below s _ _ _ (T87.setTop (mkF m 82 #[.val (.int p0), .val (.int p1), .val (.int p2), .val (.int p3), .val (.int p4), .val (.int (3 : Int32)), .val (.ref b73), .val (.ref n1_81), .unset, .unset] [(.int ((3 : Int32) - (0 : Int32)))]))
    refine o_iload X87 hx (hb hby at_82) (v := (3 : Int32)) rfl (n := 84) rfl ?_
    refine o_icmpN X87 hx (hb hby at_84) (XT.ii_ne_f (by decide)) (n := 87) rfl ?_
    refine o_aload X87 hx (hb hby at_87) (v := (.ref n1_81)) rfl rfl (n := 89) rfl ?_
    refine o_callV X87 hx hZ hown (hw _ (List.mem_of_getElem? (i := 31) rfl)) (hw _ (List.mem_of_getElem? (i := 32) rfl)) (hw _ (List.mem_of_getElem? (i := 34) rfl)) (hw _ (List.mem_of_getElem? (i := 33) rfl)) (hw _ (List.mem_of_getElem? (i := 3) rfl)) (hw _ (List.mem_of_getElem? (i := 35) rfl)) (by decide) e87 o81_0 (argsL := []) (rest := []) (c_kind l Z a0 hw n1_81 (0 : Int32) T81.heap o81_3) 0 (by decide) (by decide) (by decide) (by decide) (by rw [hml]; rfl) (lenOf o_pd2 rfl) rfl (Nat.le_of_eq rfl) (hb hby at_89) (n := 92) rfl ?_
    intro v89 T89 L89 X89 q89
    obtain ⟨rfl, e89, rfl⟩ := q89
    have N90 := Fr.app N88 (Fr.nil n0)
    show Goes p e below s _ _ _ (T89.setTop (mkF m 92 #[.val (.int p0), .val (.int p1), .val (.int p2), .val (.int p3), .val (.int p4), .val (.int (3 : Int32)), .val (.ref b73), .val (.ref n1_81), .unset, .unset] [(.int (0 : Int32))]))
    refine o_ifN X89 hx (hb hby at_92) (XT.i0_ne_f (by decide)) (n := 95) rfl ?_
    refine o_aload X89 hx (hb hby at_95) (v := (.ref n1_81)) rfl rfl (n := 97) rfl ?_
    refine o_callV X89 hx hZ hown (hw _ (List.mem_of_getElem? (i := 36) rfl)) (hw _ (List.mem_of_getElem? (i := 37) rfl)) (hw _ (List.mem_of_getElem? (i := 39) rfl)) (hw _ (List.mem_of_getElem? (i := 38) rfl)) (hw _ (List.mem_of_getElem? (i := 3) rfl)) (hw _ (List.mem_of_getElem? (i := 40) rfl)) (by decide) e89 o81_0 (argsL := []) (rest := []) (c_bytes l Z a0 hw n1_81 b73 T81.heap o81_1) 0 (by decide) (by decide) (by decide) (by decide) (by rw [hml]; rfl) (lenOf o_pd3 rfl) rfl (Nat.le_of_eq rfl) (hb hby at_97) (n := 100) rfl ?_
    intro v91 T91 L91 X91 q91
    obtain ⟨rfl, e91, rfl⟩ := q91
    have N92 := Fr.app N90 (Fr.nil n0)
    show Goes p e below s _ _ _ (T91.setTop (mkF m 100 #[.val (.int p0), .val (.int p1), .val (.int p2), .val (.int p3), .val (.int p4), .val (.int (3 : Int32)), .val (.ref b73), .val (.ref n1_81), .unset, .unset] [(.ref b73)]))
    refine o_aload X91 hx (hb hby at_100) (v := (.ref b73)) rfl rfl (n := 102) rfl ?_
    refine o_acmp X91 hx (hb hby at_102) rfl rfl (same := true) (decide_eq_true rfl) (by decide) (n := 105) (by decide) ?_
    refine o_iconst X91 hx (hb hby at_105) (v := (1 : Int32)) rfl (n := 106) rfl ?_
    refine o_goto X91 hx (hb hby at_106) (by decide) (n := 110) (by decide) ?_
    refine o_istore X91 hx (hb hby at_110) (Ls' := #[.val (.int p0), .val (.int p1), .val (.int p2), .val (.int p3), .val (.int p4), .val (.int (3 : Int32)), .val (.ref b73), .val (.ref n1_81), .val (.int (1 : Int32)), .unset]) rfl (n := 112) rfl ?_
    refine o_iload X91 hx (hb hby at_112) (v := (1 : Int32)) rfl (n := 114) rfl ?_
    refine o_ifY X91 hx (hb hby at_114) (XT.i0_ne_t (by decide)) (by decide) (n := 119) (by decide) ?_
    refine o_iload X91 hx (hb hby at_119) (v := (3 : Int32)) rfl (n := 121) rfl ?_
    refine o_ifY X91 hx (hb hby at_121) (XT.i0_ne_t (by decide)) (by decide) (n := 126) (by decide) ?_
    refine o_aload X91 hx (hb hby at_126) (v := (.ref n1_81)) rfl rfl (n := 128) rfl ?_
    refine o_callV X91 hx hZ hown (hw _ (List.mem_of_getElem? (i := 41) rfl)) (hw _ (List.mem_of_getElem? (i := 42) rfl)) (hw _ (List.mem_of_getElem? (i := 44) rfl)) (hw _ (List.mem_of_getElem? (i := 43) rfl)) (hw _ (List.mem_of_getElem? (i := 3) rfl)) (hw _ (List.mem_of_getElem? (i := 45) rfl)) (by decide) e91 o81_0 (argsL := []) (rest := []) (c_read_3 l Z a0 hw n1_81 b73 k73 p1.toInt8.toInt32 p2.toInt8.toInt32 p3.toInt8.toInt32 T81.heap n0 zz81 gg81_n1 o81_0 o81_1 o81_2 o81_4 f84 ne83) 0 (by decide) (by decide) (by decide) (by decide) (by rw [hml]; rfl) (lenOf o_pd2 rfl) rfl (Nat.le_of_eq rfl) (hb hby at_128) (n := 131) rfl ?_
    intro v93 T93 L93 X93 q93
    obtain ⟨rfl, Nq93, K93, o93_0, o93_1, o93_2, o93_3⟩ := q93
    have N94 := Fr.app N92 Nq93
    have f95 := f84.keep K93 (ninS ne83 nin0)
    have f96 := o81_0.keep K93
    have zz93 : n0 ≤ T93.heap.size := Nat.le_trans zz81 K93.1
    show Goes p e below s _ _ _ (T93.setTop (mkF m 131 #[.val (.int p0), .val (.int p1), .val (.int p2), .val (.int p3), .val (.int p4), .val (.int (3 : Int32)), .val (.ref b73), .val (.ref n1_81), .val (.int (1 : Int32)), .unset] [(.int (p1.toInt8.toInt32 &&& (255 : Int32)))]))
    refine o_istore X93 hx (hb hby at_131) (Ls' := #[.val (.int p0), .val (.int p1), .val (.int p2), .val (.int p3), .val (.int p4), .val (.int (3 : Int32)), .val (.ref b73), .val (.ref n1_81), .val (.int (1 : Int32)), .val (.int (p1.toInt8.toInt32 &&& (255 : Int32)))]) rfl (n := 133) rfl ?_
    refine o_iload X93 hx (hb hby at_133) (v := (p1.toInt8.toInt32 &&& (255 : Int32))) rfl (n := 135) rfl ?_
    refine o_iloadN X93 hx (hb hby at_135) (v := p1) rfl (n := 136) rfl ?_
    refine o_sipush X93 hx (hb hby at_136) (v := (255 : Int32)) rfl (n := 139) rfl ?_
    refine o_iand X93 hx (hb hby at_139) (v := (p1 &&& (255 : Int32))) rfl (n := 140) rfl ?_
    refine o_icmpN X93 hx (hb hby at_140) (XT.ii_ne_f (o_b255 p1)) (n := 143) rfl ?_
    refine o_aload X93 hx (hb hby at_143) (v := (.ref n1_81)) rfl rfl (n := 145) rfl ?_
    refine o_callV X93 hx hZ hown (hw _ (List.mem_of_getElem? (i := 21) rfl)) (hw _ (List.mem_of_getElem? (i := 22) rfl)) (hw _ (List.mem_of_getElem? (i := 24) rfl)) (hw _ (List.mem_of_getElem? (i := 23) rfl)) (hw _ (List.mem_of_getElem? (i := 3) rfl)) (hw _ (List.mem_of_getElem? (i := 25) rfl)) (by decide) (rfl : T93.heap = T93.heap) o93_0 (argsL := []) (rest := []) (c_position l Z a0 hw n1_81 (1 : Int32) T93.heap o93_3) 0 (by decide) (by decide) (by decide) (by decide) (by rw [hml]; rfl) (lenOf o_pd2 rfl) rfl (Nat.le_of_eq rfl) (hb hby at_145) (n := 148) rfl ?_
    intro v101 T101 L101 X101 q101
    obtain ⟨rfl, e101, rfl⟩ := q101
    have N102 := Fr.app N94 (Fr.nil n0)
    show Goes p e below s _ _ _ (T101.setTop (mkF m 148 #[.val (.int p0), .val (.int p1), .val (.int p2), .val (.int p3), .val (.int p4), .val (.int (3 : Int32)), .val (.ref b73), .val (.ref n1_81), .val (.int (1 : Int32)), .val (.int (p1.toInt8.toInt32 &&& (255 : Int32)))] [(.int (1 : Int32))]))
    refine o_iconst X101 hx (hb hby at_148) (v := (1 : Int32)) rfl (n := 149) rfl ?_
    refine o_icmpN X101 hx (hb hby at_149) (XT.ii_ne_f (by decide)) (n := 152) rfl ?_
    refine o_aload X101 hx (hb hby at_152) (v := (.ref n1_81)) rfl rfl (n := 154) rfl ?_
    refine o_callV X101 hx hZ hown (hw _ (List.mem_of_getElem? (i := 26) rfl)) (hw _ (List.mem_of_getElem? (i := 27) rfl)) (hw _ (List.mem_of_getElem? (i := 29) rfl)) (hw _ (List.mem_of_getElem? (i := 28) rfl)) (hw _ (List.mem_of_getElem? (i := 3) rfl)) (hw _ (List.mem_of_getElem? (i := 30) rfl)) (by decide) e101 o93_0 (argsL := []) (rest := []) (c_remaining l Z a0 hw n1_81 (3 : Int32) (1 : Int32) T93.heap o93_2 o93_3) 0 (by decide) (by decide) (by decide) (by decide) (by rw [hml]; rfl) (lenOf o_pd2 rfl) rfl (Nat.le_of_eq rfl) (hb hby at_154) (n := 157) rfl ?_
    intro v103 T103 L103 X103 q103
    obtain ⟨rfl, e103, rfl⟩ := q103
    have N104 := Fr.app N102 (Fr.nil n0)
    show Goes p e below s _ _ _ (T103.setTop (mkF m 157 #[.val (.int p0), .val (.int p1), .val (.int p2), .val (.int p3), .val (.int p4), .val (.int (3 : Int32)), .val (.ref b73), .val (.ref n1_81), .val (.int (1 : Int32)), .val (.int (p1.toInt8.toInt32 &&& (255 : Int32)))] [(.int ((3 : Int32) - (1 : Int32)))]))
    refine o_iload X103 hx (hb hby at_157) (v := (3 : Int32)) rfl (n := 159) rfl ?_
    refine o_iconst X103 hx (hb hby at_159) (v := (1 : Int32)) rfl (n := 160) rfl ?_
    refine o_isub X103 hx (hb hby at_160) (v := (2 : Int32)) (by decide) (n := 161) rfl ?_
    refine o_icmpN X103 hx (hb hby at_161) (XT.ii_ne_f (by decide)) (n := 164) rfl ?_
    refine o_iconst X103 hx (hb hby at_164) (v := (1 : Int32)) rfl (n := 165) rfl ?_
    refine o_goto X103 hx (hb hby at_165) (by decide) (n := 169) (by decide) ?_
    exact o_nreturn X103 hx hret hlk (t := .boolean) (by simp) (hb hby at_169) (by decide) (by decide) e103 ⟨rfl, N104⟩
  · refine o_iloadN X0 hx (hb hby at_0) (v := p0) rfl (n := 1) rfl ?_
    refine o_bipush X0 hx (hb hby at_1) (v := (7 : Int32)) rfl (n := 3) rfl ?_
    refine o_iand X0 hx (hb hby at_3) (v := (p0 &&& (7 : Int32))) rfl (n := 4) rfl ?_
    refine o_iconst X0 hx (hb hby at_4) (v := (5 : Int32)) rfl (n := 5) rfl ?_
    refine o_irem X0 hx (hb hby at_5) (by decide) (v := (4 : Int32)) q (n := 6) rfl ?_
    refine o_istore X0 hx (hb hby at_6) (Ls' := #[.val (.int p0), .val (.int p1), .val (.int p2), .val (.int p3), .val (.int p4), .val (.int (4 : Int32)), .unset, .unset, .unset, .unset]) rfl (n := 8) rfl ?_
    refine o_iload X0 hx (hb hby at_8) (v := (4 : Int32)) rfl (n := 10) rfl ?_
    refine o_newarray X0 hx hZ (aty := .byte) (hw _ (List.mem_of_getElem? (i := 0) rfl)) e0 (hb hby at_10) (by decide) 4 (by decide) (by decide) (by decide) (by decide) (n := 12) rfl ?_
    intro T105 h105 b105 k105 X105 e105 g105 E105 V105
    have gg105 : n0 ≤ b105 := Nat.le_trans Z0 (Nat.le_of_eq g105.symm)
    have zz105 : n0 ≤ h105.size := Nat.le_trans Z0 E105.1
    have f106 : Arv Z h105 b105 k105 .byte (4 : Int32) [(.int (0 : Int32)), (.int (0 : Int32)), (.int (0 : Int32)), (.int (0 : Int32))] (.int (0 : Int32)) := V105.pad (pad_rep [] (.int (0 : Int32)) 4)
    refine o_astore X105 hx (hb hby at_12) rfl (Ls' := #[.val (.int p0), .val (.int p1), .val (.int p2), .val (.int p3), .val (.int p4), .val (.int (4 : Int32)), .val (.ref b105), .unset, .unset, .unset]) rfl (n := 14) rfl ?_
    refine o_iload X105 hx (hb hby at_14) (v := (4 : Int32)) rfl (n := 16) rfl ?_
    refine o_ifN X105 hx (hb hby at_16) (XT.i0_le_f (by decide)) (n := 19) rfl ?_
    refine o_aload X105 hx (hb hby at_19) (v := (.ref b105)) rfl rfl (n := 21) rfl ?_
    refine o_iconst X105 hx (hb hby at_21) (v := (0 : Int32)) rfl (n := 22) rfl ?_
    refine o_iloadN X105 hx (hb hby at_22) (v := p1) rfl (n := 23) rfl ?_
    refine o_i2b X105 hx (hb hby at_23) (v := p1.toInt8.toInt32) rfl (n := 24) rfl ?_
    refine o_bastore X105 hx hZ e105 f106 (0) (by decide) (by decide) (Nat.le_of_ble_eq_true rfl) (w := (.int p1.toInt8.toInt32)) (congrArg Value.int (o_nar8 _)) (vs' := [(.int p1.toInt8.toInt32), (.int (0 : Int32)), (.int (0 : Int32)), (.int (0 : Int32))]) rfl (hb hby at_24) (n := 25) rfl ?_
    intro T107 h107 X107 e107 W107 V107
    have zz107 : n0 ≤ h107.size := Nat.le_trans zz105 (Nat.le_of_eq W107.size.symm)
    have N108 := Fr.snoc X107 N0 gg105
    refine o_iload X107 hx (hb hby at_25) (v := (4 : Int32)) rfl (n := 27) rfl ?_
    refine o_iconst X107 hx (hb hby at_27) (v := (1 : Int32)) rfl (n := 28) rfl ?_
    refine o_icmpN X107 hx (hb hby at_28) (XT.ii_le_f (by decide)) (n := 31) rfl ?_
    refine o_aload X107 hx (hb hby at_31) (v := (.ref b105)) rfl rfl (n := 33) rfl ?_
    refine o_iconst X107 hx (hb hby at_33) (v := (1 : Int32)) rfl (n := 34) rfl ?_
    refine o_iloadN X107 hx (hb hby at_34) (v := p2) rfl (n := 35) rfl ?_
    refine o_i2b X107 hx (hb hby at_35) (v := p2.toInt8.toInt32) rfl (n := 36) rfl ?_
    refine o_bastore X107 hx hZ e107 V107 (1) (by decide) (by decide) (Nat.le_of_ble_eq_true rfl) (w := (.int p2.toInt8.toInt32)) (congrArg Value.int (o_nar8 _)) (vs' := [(.int p1.toInt8.toInt32), (.int p2.toInt8.toInt32), (.int (0 : Int32)), (.int (0 : Int32))]) rfl (hb hby at_36) (n := 37) rfl ?_
    intro T109 h109 X109 e109 W109 V109
    have zz109 : n0 ≤ h109.size := Nat.le_trans zz107 (Nat.le_of_eq W109.size.symm)
    have N110 := Fr.snoc X109 N108 gg105
    refine o_iload X109 hx (hb hby at_37) (v := (4 : Int32)) rfl (n := 39) rfl ?_
    refine o_iconst X109 hx (hb hby at_39) (v := (2 : Int32)) rfl (n := 40) rfl ?_
    refine o_icmpN X109 hx (hb hby at_40) (XT.ii_le_f (by decide)) (n := 43) rfl ?_
    refine o_aload X109 hx (hb hby at_43) (v := (.ref b105)) rfl rfl (n := 45) rfl ?_
    refine o_iconst X109 hx (hb hby at_45) (v := (2 : Int32)) rfl (n := 46) rfl ?_
    refine o_iloadN X109 hx (hb hby at_46) (v := p3) rfl (n := 47) rfl ?_
    refine o_i2b X109 hx (hb hby at_47) (v := p3.toInt8.toInt32) rfl (n := 48) rfl ?_
    refine o_bastore X109 hx hZ e109 V109 (2) (by decide) (by decide) (Nat.le_of_ble_eq_true rfl) (w := (.int p3.toInt8.toInt32)) (congrArg Value.int (o_nar8 _)) (vs' := [(.int p1.toInt8.toInt32), (.int p2.toInt8.toInt32), (.int p3.toInt8.toInt32), (.int (0 : Int32))]) rfl (hb hby at_48) (n := 49) rfl ?_
    intro T111 h111 X111 e111 W111 V111
    have zz111 : n0 ≤ h111.size := Nat.le_trans zz109 (Nat.le_of_eq W111.size.symm)
    have N112 := Fr.snoc X111 N110 gg105
    refine o_iload X111 hx (hb hby at_49) (v := (4 : Int32)) rfl (n := 51) rfl ?_
    refine o_iconst X111 hx (hb hby at_51) (v := (3 : Int32)) rfl (n := 52) rfl ?_
    refine o_icmpN X111 hx (hb hby at_52) (XT.ii_le_f (by decide)) (n := 55) rfl ?_
    refine o_aload X111 hx (hb hby at_55) (v := (.ref b105)) rfl rfl (n := 57) rfl ?_
    refine o_iconst X111 hx (hb hby at_57) (v := (3 : Int32)) rfl (n := 58) rfl ?_
    refine o_iload X111 hx (hb hby at_58) (v := p4) rfl (n := 60) rfl ?_
    refine o_i2b X111 hx (hb hby at_60) (v := p4.toInt8.toInt32) rfl (n := 61) rfl ?_
    refine o_bastore X111 hx hZ e111 V111 (3) (by decide) (by decide) (Nat.le_of_ble_eq_true rfl) (w := (.int p4.toInt8.toInt32)) (congrArg Value.int (o_nar8 _)) (vs' := [(.int p1.toInt8.toInt32), (.int p2.toInt8.toInt32), (.int p3.toInt8.toInt32), (.int p4.toInt8.toInt32)]) rfl (hb hby at_61) (n := 62) rfl ?_
    intro T113 h113 X113 e113 W113 V113
    have zz113 : n0 ≤ h113.size := Nat.le_trans zz111 (Nat.le_of_eq W113.size.symm)
    have N114 := Fr.snoc X113 N112 gg105
    refine o_aload X113 hx (hb hby at_62) (v := (.ref b105)) rfl rfl (n := 64) rfl ?_
    refine o_callS X113 hx hZ hown (hw _ (List.mem_of_getElem? (i := 1) rfl)) (hw _ (List.mem_of_getElem? (i := 2) rfl)) (hw _ (List.mem_of_getElem? (i := 3) rfl)) (hw _ (List.mem_of_getElem? (i := 4) rfl)) (by decide) e113 (argsL := [(.ref b105)]) (rest := []) (c_over_4 l Z a0 hw b105 k105 p1.toInt8.toInt32 p2.toInt8.toInt32 p3.toInt8.toInt32 p4.toInt8.toInt32 h113 n0 zz113 V113) 0 (by decide) (by decide) (by decide) (by decide) (by rw [hml]; rfl) (lenOf o_pd1 rfl) rfl (Nat.le_of_eq rfl) (hb hby at_64) (n := 67) rfl ?_
    intro v115 T115 L115 X115 q115
    obtain ⟨n1_115, rfl, Nq115, K115, sq115_n1, o115_0, o115_1, o115_2, o115_3, o115_4⟩ := q115
    have N116 := Fr.app N114 Nq115
    have ne117 : b105 ≠ n1_115 := Nat.ne_of_lt (Nat.lt_of_lt_of_le V113.lt sq115_n1)
    have gg115_n1 : n0 ≤ n1_115 := Nat.le_trans zz113 sq115_n1
    have f118 := V113.keep K115 nin0
    have zz115 : n0 ≤ T115.heap.size := Nat.le_trans zz113 K115.1
    show Goes p e below s _ _ _ (T115.setTop (mkF m 67 #[.val (.int p0), .val (.int p1), .val (.int p2), .val (.int p3), .val (.int p4), .val (.int (4 : Int32)), .val (.ref b105), .unset, .unset, .unset] [(.ref n1_115)]))
    refine o_astore X115 hx (hb hby at_67) rfl (Ls' := #[.val (.int p0), .val (.int p1), .val (.int p2), .val (.int p3), .val (.int p4), .val (.int (4 : Int32)), .val (.ref b105), .val (.ref n1_115), .unset, .unset]) rfl (n := 69) rfl ?_
    refine o_aload X115 hx (hb hby at_69) (v := (.ref n1_115)) rfl rfl (n := 71) rfl ?_
    refine o_callV X115 hx hZ hown (hw _ (List.mem_of_getElem? (i := 21) rfl)) (hw _ (List.mem_of_getElem? (i := 22) rfl)) (hw _ (List.mem_of_getElem? (i := 24) rfl)) (hw _ (List.mem_of_getElem? (i := 23) rfl)) (hw _ (List.mem_of_getElem? (i := 3) rfl)) (hw _ (List.mem_of_getElem? (i := 25) rfl)) (by decide) (rfl : T115.heap = T115.heap) o115_0 (argsL := []) (rest := []) (c_position l Z a0 hw n1_115 (0 : Int32) T115.heap o115_4) 0 (by decide) (by decide) (by decide) (by decide) (by rw [hml]; rfl) (lenOf o_pd2 rfl) rfl (Nat.le_of_eq rfl) (hb hby at_71) (n := 74) rfl ?_
    intro v119 T119 L119 X119 q119
    obtain ⟨rfl, e119, rfl⟩ := q119
    have N120 := Fr.app N116 (Fr.nil n0)
    show Goes p e below s _ _ _ (T119.setTop (mkF m 74 #[.val (.int p0), .val (.int p1), .val (.int p2), .val (.int p3), .val (.int p4), .val (.int (4 : Int32)), .val (.ref b105), .val (.ref n1_115), .unset, .unset] [(.int (0 : Int32))]))
    refine o_ifN X119 hx (hb hby at_74) (XT.i0_ne_f (by decide)) (n := 77) rfl ?_
    refine o_aload X119 hx (hb hby at_77) (v := (.ref n1_115)) rfl rfl (n := 79) rfl ?_
    refine o_callV X119 hx hZ hown (hw _ (List.mem_of_getElem? (i := 26) rfl)) (hw _ (List.mem_of_getElem? (i := 27) rfl)) (hw _ (List.mem_of_getElem? (i := 29) rfl)) (hw _ (List.mem_of_getElem? (i := 28) rfl)) (hw _ (List.mem_of_getElem? (i := 3) rfl)) (hw _ (List.mem_of_getElem? (i := 30) rfl)) (by decide) e119 o115_0 (argsL := []) (rest := []) (c_remaining l Z a0 hw n1_115 (4 : Int32) (0 : Int32) T115.heap o115_2 o115_4) 0 (by decide) (by decide) (by decide) (by decide) (by rw [hml]; rfl) (lenOf o_pd2 rfl) rfl (Nat.le_of_eq rfl) (hb hby at_79) (n := 82) rfl ?_
    intro v121 T121 L121 X121 q121
    obtain ⟨rfl, e121, rfl⟩ := q121
    have N122 := Fr.app N120 (Fr.nil n0)
    show Goes p e below s _ _ _ (T121.setTop (mkF m 82 #[.val (.int p0), .val (.int p1), .val (.int p2), .val (.int p3), .val (.int p4), .val (.int (4 : Int32)), .val (.ref b105), .val (.ref n1_115), .unset, .unset] [(.int ((4 : Int32) - (0 : Int32)))]))
    refine o_iload X121 hx (hb hby at_82) (v := (4 : Int32)) rfl (n := 84) rfl ?_
    refine o_icmpN X121 hx (hb hby at_84) (XT.ii_ne_f (by decide)) (n := 87) rfl ?_
    refine o_aload X121 hx (hb hby at_87) (v := (.ref n1_115)) rfl rfl (n := 89) rfl ?_
    refine o_callV X121 hx hZ hown (hw _ (List.mem_of_getElem? (i := 31) rfl)) (hw _ (List.mem_of_getElem? (i := 32) rfl)) (hw _ (List.mem_of_getElem? (i := 34) rfl)) (hw _ (List.mem_of_getElem? (i := 33) rfl)) (hw _ (List.mem_of_getElem? (i := 3) rfl)) (hw _ (List.mem_of_getElem? (i := 35) rfl)) (by decide) e121 o115_0 (argsL := []) (rest := []) (c_kind l Z a0 hw n1_115 (0 : Int32) T115.heap o115_3) 0 (by decide) (by decide) (by decide) (by decide) (by rw [hml]; rfl) (lenOf o_pd2 rfl) rfl (Nat.le_of_eq rfl) (hb hby at_89) (n := 92) rfl ?_
    intro v123 T123 L123 X123 q123
    obtain ⟨rfl, e123, rfl⟩ := q123
    have N124 := Fr.app N122 (Fr.nil n0)
    show Goes p e below s _ _ _ (T123.setTop (mkF m 92 #[.val (.int p0), .val (.int p1), .val (.int p2), .val (.int p3), .val (.int p4), .val (.int (4 : Int32)), .val (.ref b105), .val (.ref n1_115), .unset, .unset] [(.int (0 : Int32))]))
    refine o_ifN X123 hx (hb hby at_92) (XT.i0_ne_f (by decide)) (n := 95) rfl ?_
    refine o_aload X123 hx (hb hby at_95) (v := (.ref n1_115)) rfl rfl (n := 97) rfl ?_
    refine o_callV X123 hx hZ hown (hw _ (List.mem_of_getElem? (i := 36) rfl)) (hw _ (List.mem_of_getElem? (i := 37) rfl)) (hw _ (List.mem_of_getElem? (i := 39) rfl)) (hw _ (List.mem_of_getElem? (i := 38) rfl)) (hw _ (List.mem_of_getElem? (i := 3) rfl)) (hw _ (List.mem_of_getElem? (i := 40) rfl)) (by decide) e123 o115_0 (argsL := []) (rest := []) (c_bytes l Z a0 hw n1_115 b105 T115.heap o115_1) 0 (by decide) (by decide) (by decide) (by decide) (by rw [hml]; rfl) (lenOf o_pd3 rfl) rfl (Nat.le_of_eq rfl) (hb hby at_97) (n := 100) rfl ?_
    intro v125 T125 L125 X125 q125
    obtain ⟨rfl, e125, rfl⟩ := q125
    have N126 := Fr.app N124 (Fr.nil n0)
    show Goes p e below s _ _ _ (T125.setTop (mkF m 100 #[.val (.int p0), .val (.int p1), .val (.int p2), .val (.int p3), .val (.int p4), .val (.int (4 : Int32)), .val (.ref b105), .val (.ref n1_115), .unset, .unset] [(.ref b105)]))
    refine o_aload X125 hx (hb hby at_100) (v := (.ref b105)) rfl rfl (n := 102) rfl ?_
    refine o_acmp X125 hx (hb hby at_102) rfl rfl (same := true) (decide_eq_true rfl) (by decide) (n := 105) (by decide) ?_
    refine o_iconst X125 hx (hb hby at_105) (v := (1 : Int32)) rfl (n := 106) rfl ?_
    refine o_goto X125 hx (hb hby at_106) (by decide) (n := 110) (by decide) ?_
    refine o_istore X125 hx (hb hby at_110) (Ls' := #[.val (.int p0), .val (.int p1), .val (.int p2), .val (.int p3), .val (.int p4), .val (.int (4 : Int32)), .val (.ref b105), .val (.ref n1_115), .val (.int (1 : Int32)), .unset]) rfl (n := 112) rfl ?_
    refine o_iload X125 hx (hb hby at_112) (v := (1 : Int32)) rfl (n := 114) rfl ?_
    refine o_ifY X125 hx (hb hby at_114) (XT.i0_ne_t (by decide)) (by decide) (n := 119) (by decide) ?_
    refine o_iload X125 hx (hb hby at_119) (v := (4 : Int32)) rfl (n := 121) rfl ?_
    refine o_ifY X125 hx (hb hby at_121) (XT.i0_ne_t (by decide)) (by decide) (n := 126) (by decide) ?_
    refine o_aload X125 hx (hb hby at_126) (v := (.ref n1_115)) rfl rfl (n := 128) rfl ?_
    refine o_callV X125 hx hZ hown (hw _ (List.mem_of_getElem? (i := 41) rfl)) (hw _ (List.mem_of_getElem? (i := 42) rfl)) (hw _ (List.mem_of_getElem? (i := 44) rfl)) (hw _ (List.mem_of_getElem? (i := 43) rfl)) (hw _ (List.mem_of_getElem? (i := 3) rfl)) (hw _ (List.mem_of_getElem? (i := 45) rfl)) (by decide) e125 o115_0 (argsL := []) (rest := []) (c_read_4 l Z a0 hw n1_115 b105 k105 p1.toInt8.toInt32 p2.toInt8.toInt32 p3.toInt8.toInt32 p4.toInt8.toInt32 T115.heap n0 zz115 gg115_n1 o115_0 o115_1 o115_2 o115_4 f118 ne117) 0 (by decide) (by decide) (by decide) (by decide) (by rw [hml]; rfl) (lenOf o_pd2 rfl) rfl (Nat.le_of_eq rfl) (hb hby at_128) (n := 131) rfl ?_
    intro v127 T127 L127 X127 q127
    obtain ⟨rfl, Nq127, K127, o127_0, o127_1, o127_2, o127_3⟩ := q127
    have N128 := Fr.app N126 Nq127
    have f129 := f118.keep K127 (ninS ne117 nin0)
    have f130 := o115_0.keep K127
    have zz127 : n0 ≤ T127.heap.size := Nat.le_trans zz115 K127.1
    show Goes p e below s _ _ _ (T127.setTop (mkF m 131 #[.val (.int p0), .val (.int p1), .val (.int p2), .val (.int p3), .val (.int p4), .val (.int (4 : Int32)), .val (.ref b105), .val (.ref n1_115), .val (.int (1 : Int32)), .unset] [(.int (p1.toInt8.toInt32 &&& (255 : Int32)))]))
    refine o_istore X127 hx (hb hby at_131) (Ls' := #[.val (.int p0), .val (.int p1), .val (.int p2), .val (.int p3), .val (.int p4), .val (.int (4 : Int32)), .val (.ref b105), .val (.ref n1_115), .val (.int (1 : Int32)), .val (.int (p1.toInt8.toInt32 &&& (255 : Int32)))]) rfl (n := 133) rfl ?_
    refine o_iload X127 hx (hb hby at_133) (v := (p1.toInt8.toInt32 &&& (255 : Int32))) rfl (n := 135) rfl ?_
    refine o_iloadN X127 hx (hb hby at_135) (v := p1) rfl (n := 136) rfl ?_
    refine o_sipush X127 hx (hb hby at_136) (v := (255 : Int32)) rfl (n := 139) rfl ?_
    refine o_iand X127 hx (hb hby at_139) (v := (p1 &&& (255 : Int32))) rfl (n := 140) rfl ?_
    refine o_icmpN X127 hx (hb hby at_140) (XT.ii_ne_f (o_b255 p1)) (n := 143) rfl ?_
    refine o_aload X127 hx (hb hby at_143) (v := (.ref n1_115)) rfl rfl (n := 145) rfl ?_
    refine o_callV X127 hx hZ hown (hw _ (List.mem_of_getElem? (i := 21) rfl)) (hw _ (List.mem_of_getElem? (i := 22) rfl)) (hw _ (List.mem_of_getElem? (i := 24) rfl)) (hw _ (List.mem_of_getElem? (i := 23) rfl)) (hw _ (List.mem_of_getElem? (i := 3) rfl)) (hw _ (List.mem_of_getElem? (i := 25) rfl)) (by decide) (rfl : T127.heap = T127.heap) o127_0 (argsL := []) (rest := []) (c_position l Z a0 hw n1_115 (1 : Int32) T127.heap o127_3) 0 (by decide) (by decide) (by decide) (by decide) (by rw [hml]; rfl) (lenOf o_pd2 rfl) rfl (Nat.le_of_eq rfl) (hb hby at_145) (n := 148) rfl ?_
    intro v135 T135 L135 X135 q135
    obtain ⟨rfl, e135, rfl⟩ := q135
    have N136 := Fr.app N128 (Fr.nil n0)
    show Goes p e below s _ _ _ (T135.setTop (mkF m 148 #[.val (.int p0), .val (.int p1), .val (.int p2), .val (.int p3), .val (.int p4), .val (.int (4 : Int32)), .val (.ref b105), .val (.ref n1_115), .val (.int (1 : Int32)), .val (.int (p1.toInt8.toInt32 &&& (255 : Int32)))] [(.int (1 : Int32))]))
    refine o_iconst X135 hx (hb hby at_148) (v := (1 : Int32)) rfl (n := 149) rfl ?_
    refine o_icmpN X135 hx (hb hby at_149) (XT.ii_ne_f (by decide)) (n := 152) rfl ?_
    refine o_aload X135 hx (hb hby at_152) (v := (.ref n1_115)) rfl rfl (n := 154) rfl ?_
    refine o_callV X135 hx hZ hown (hw _ (List.mem_of_getElem? (i := 26) rfl)) (hw _ (List.mem_of_getElem? (i := 27) rfl)) (hw _ (List.mem_of_getElem? (i := 29) rfl)) (hw _ (List.mem_of_getElem? (i := 28) rfl)) (hw _ (List.mem_of_getElem? (i := 3) rfl)) (hw _ (List.mem_of_getElem? (i := 30) rfl)) (by decide) e135 o127_0 (argsL := []) (rest := []) (c_remaining l Z a0 hw n1_115 (4 : Int32) (1 : Int32) T127.heap o127_2 o127_3) 0 (by decide) (by decide) (by decide) (by decide) (by rw [hml]; rfl) (lenOf o_pd2 rfl) rfl (Nat.le_of_eq rfl) (hb hby at_154) (n := 157) rfl ?_
    intro v137 T137 L137 X137 q137
    obtain ⟨rfl, e137, rfl⟩ := q137
    have N138 := Fr.app N136 (Fr.nil n0)
    show Goes p e below s _ _ _ (T137.setTop (mkF m 157 #[.val (.int p0), .val (.int p1), .val (.int p2), .val (.int p3), .val (.int p4), .val (.int (4 : Int32)), .val (.ref b105), .val (.ref n1_115), .val (.int (1 : Int32)), .val (.int (p1.toInt8.toInt32 &&& (255 : Int32)))] [(.int ((4 : Int32) - (1 : Int32)))]))
    refine o_iload X137 hx (hb hby at_157) (v := (4 : Int32)) rfl (n := 159) rfl ?_
    refine o_iconst X137 hx (hb hby at_159) (v := (1 : Int32)) rfl (n := 160) rfl ?_
    refine o_isub X137 hx (hb hby at_160) (v := (3 : Int32)) (by decide) (n := 161) rfl ?_
    refine o_icmpN X137 hx (hb hby at_161) (XT.ii_ne_f (by decide)) (n := 164) rfl ?_
    refine o_iconst X137 hx (hb hby at_164) (v := (1 : Int32)) rfl (n := 165) rfl ?_
    refine o_goto X137 hx (hb hby at_165) (by decide) (n := 169) (by decide) ?_
    exact o_nreturn X137 hx hret hlk (t := .boolean) (by simp) (hb hby at_169) (by decide) (by decide) e137 ⟨rfl, N138⟩
set_option maxRecDepth 65536 in
set_option maxHeartbeats 40000000 in
theorem comes_1 {Post : Tables → Env → Array Value → State → Outcome → State → Prop} (hpost : ∀ tb e args s v u, (limb_1_1.after args s (.returned v) u = true ∧ limb_1_2.after args s (.returned v) u = true ∧ True) → FrameEnd s (.returned v) u (Jvm.fieldLocs frame_1_writes args s ++ Jvm.arrayLocs frame_1_arrays args s ++ Jvm.staticLocs frame_1_statics s) 16 128 → Post tb e args s (.returned v) u) :
    ArmFor flags0 classFile x code maxLocals ret World_1 tables_1 room_1 Calls_1 rest_1 Pre_1 Post := by
  intro l hfl _ _ p e ha hc hk s m args below hf hA hF happ hP
  obtain ⟨hcalls, hrest, hpre⟩ := hP
  obtain ⟨-, -, -, hnamed, -, -, -, hat⟩ := (Spec.applies_iff hf).mp happ
  obtain ⟨hg, hn⟩ := and_e (Cond.before_iff.mp (show (Jvm.Cond.and given_1 narrow_1).before args s = true from hpre))
  obtain ⟨gv1, gv2⟩ := and_e hg
  obtain ⟨gv3, gv4⟩ := and_e gv2
  obtain ⟨gv5, gv6⟩ := and_e gv4
  obtain ⟨gv7, gv8⟩ := and_e gv6
  obtain ⟨gv9, gv10⟩ := and_e gv8
  obtain ⟨w0, w1, w2, w3, w4, rfl⟩ : ∃ w0 w1 w2 w3 w4 : Value, args = #[w0, w1, w2, w3, w4] := by
    have hs : args.size = 5 := by simpa [Cond.value, given_1] using gv1
    obtain ⟨L⟩ := args
    match L, hs with
    | [w0, w1, w2, w3, w4], _ => exact ⟨w0, w1, w2, w3, w4, rfl⟩
  have hw := fun d (hd : d ∈ tables_1) => atoms_spec (ws := Jvm.Cond.code x code maxLocals ret :: tables_1) hat d (List.mem_cons_of_mem _ hd)
  have hfit : Fit s := fun {y c} hc i hi => by
    obtain ⟨ha, rfl⟩ := Array.getElem?_eq_some_iff.mp hc
    have q := List.all_eq_true.mp ((Array.all_eq_true_iff_forall_mem.mp hF) _ (Array.getElem_mem ha)) i (List.mem_range.mpr hi)
    simpa [Array.getElem?_eq_getElem hi] using q
  obtain ⟨i0, ei0⟩ := is_v gv3
  obtain rfl : w0 = (.int i0) := Option.some.inj ei0
  obtain ⟨i1, ei1⟩ := is_v gv5
  obtain rfl : w1 = (.int i1) := Option.some.inj ei1
  obtain ⟨i2, ei2⟩ := is_v gv7
  obtain rfl : w2 = (.int i2) := Option.some.inj ei2
  obtain ⟨i3, ei3⟩ := is_v gv9
  obtain rfl : w3 = (.int i3) := Option.some.inj ei3
  obtain ⟨i4, ei4⟩ := is_v gv10
  obtain rfl : w4 = (.int i4) := Option.some.inj ei4
  obtain ⟨n, o, h1, h2, h3, _, L, rfl, ⟨rfl, N⟩, hq⟩ := o_law l s _ hw i0 i1 i2 i3 i4 s.heap s.heap.size (Nat.le_refl _) p e ha hc hk s m _ below hf ((Spec.applies_iff_loose hf).mp happ).1 ⟨rfl, State.Warmed39.refl s, rfl⟩ trivial
  refine ⟨n, _, h1, h2, h3, hpost _ _ _ _ _ _ ⟨Cond.after_iff.mpr rfl, Cond.after_iff.mpr (eq_i res_at (Term.int_eval (1)) rfl), trivial⟩ ⟨hq.1, hq.2.1, (hq.2.2.sift fun y hy => Or.inr (N y hy)).mono (by decide) (by decide)⟩⟩
theorem main_1_1 : Claimed_1_1 := comes_1 fun _ _ _ _ _ _ h hF => ⟨h.1, hF⟩
theorem main_1_2 : Claimed_1_2 := comes_1 fun _ _ _ _ _ _ h hF => ⟨h.2.1, hF⟩
end Jvm.Pilot.@@N@@
namespace Jvm.Pilot.@@N@@
open Jvm Jvm.ClassFile Sem Op Lib Jvm.Free Jvm.Stand Jvm.Pilot.@@N@@.Jvm.D
/-! MADE BY PROGRAM (witnessworld.py) out of the Statement's table words and the real class files: 9 classes; the members and pool entries that the words name. The judged class is class 1, her method 1. -/
namespace start1
open Jvm.ClassFile
def u (s : String) : CpInfo := .utf8 (stringToUtf16 s)
/-- a pool by its gaps: so many unusable entries, then the entry; so many at the end -/
def gap : Nat → List CpInfo → List CpInfo
  | 0, r => r
  | n + 1, r => .unusable :: gap n r
def poolList (es : List (Nat × CpInfo)) (last : Nat) : List CpInfo := es.foldr (fun e r => gap e.1 (e.2 :: r)) (gap last [])
def pool (es : List (Nat × CpInfo)) (last : Nat) : Array CpInfo := ⟨poolList es last⟩
def fileOf (pool : Array CpInfo) (this : Nat) (attrs : Array Attribute := #[]) (ms : Array MethodInfo := #[]) (fl : Nat := 33) (sup : Nat := 0) (ifs : Array Nat := #[]) (fds : Array FieldInfo := #[]) : ClassFile where
  minorVersion := 0
  majorVersion := 65
  constantPool := pool
  accessFlags := fl
  thisClass := this
  superClass := sup
  interfaces := ifs
  fields := fds
  methods := ms
  attributes := attrs
def plain (name : String) (sup : Option ClassId) : Class where
  name := name
  kind := .ordinary
  loader := none
  accessFlags := 33
  super := sup
  interfaces := #[]
  cf := none
  fields := #[]
  methods := #[]
  instanceTypes := #[]
  staticTypes := #[]
  resolved := #[]
  callSites := []
  init := .initialized
  statics := none
  mirror := none

def pool0 : Array CpInfo := pool [(5, u "<init>"), (0, u "()V"), (1, .class_ 10), (1, u "java/lang/Object")] 113

def k0c0 : Code := { maxStack := 0, maxLocals := 1, code := object_method_1_code, exceptionTable := #[], attributes := #[] }
def k0m0 : Method := { name := "<init>", desc := "()V", sig := { parameters := [], returnType := none }, accessFlags := 1, code := some k0c0 }
/-- java/lang/Object -/
def k0 : Class := { plain "java/lang/Object" none with
  accessFlags := 33
  interfaces := #[]
  cf := some (fileOf pool0 8 #[] #[{ accessFlags := 1, nameIndex := 5, descriptorIndex := 6, attributes := #[] }] 33 0 #[] #[])
  fields := #[]
  methods := #[k0m0]
  instanceTypes := #[]
  staticTypes := #[]
  resolved := Array.replicate 124 none
  statics := none }

def pool1 : Array CpInfo := pool [(2, .class_ 4), (1, u "java/lang/Object"), (0, u "<init>"), (0, u "()V"), (0, .methodref 8 9), (0, .class_ 10), (0, .nameAndType 11 12), (0, u "com/example/codicil/codicil/BlobReader"), (0, u "over"), (0, u "([B)Lcom/example/codicil/codicil/BlobReader;"), (0, .methodref 8 14), (0, .nameAndType 15 16), (0, u "position"), (0, u "()I"), (0, .methodref 8 18), (0, .nameAndType 19 16), (0, u "remaining"), (0, .methodref 8 21), (0, .nameAndType 22 16), (0, u "kind"), (0, .methodref 8 24), (0, .nameAndType 25 26), (0, u "bytes"), (0, u "()[B"), (0, .methodref 8 28), (0, .nameAndType 29 16), (0, u "readByte"), (0, .class_ 31), (0, u "com/example/codicil/codicil/BlobReaderOverPinLaw"), (2, u "law"), (0, u "(IIIII)Z")] 8

def k1m0 : Method := { name := "<init>", desc := "()V", sig := { parameters := [], returnType := none }, accessFlags := 1, code := none }
def k1c1 : Code := { maxStack := 3, maxLocals := 10, code := code, exceptionTable := #[], attributes := #[] }
def k1m1 : Method := { name := "law", desc := "(IIIII)Z", sig := { parameters := [.int, .int, .int, .int, .int], returnType := some .boolean }, accessFlags := 9, code := some k1c1 }
/-- com/example/codicil/codicil/BlobReaderOverPinLaw -/
def k1 : Class := { plain "com/example/codicil/codicil/BlobReaderOverPinLaw" (some 0) with
  accessFlags := 49
  interfaces := #[]
  cf := some (fileOf pool1 30 #[] #[{ accessFlags := 1, nameIndex := 5, descriptorIndex := 6, attributes := #[] }, { accessFlags := 9, nameIndex := 34, descriptorIndex := 35, attributes := #[] }] 49 2 #[] #[])
  fields := #[]
  methods := #[k1m0, k1m1]
  instanceTypes := #[]
  staticTypes := #[]
  resolved := Array.replicate 44 none
  statics := none }

def pool2 : Array CpInfo := pool [(1, .methodref 2 3), (0, .class_ 4), (0, .nameAndType 5 6), (0, u "java/lang/Object"), (0, u "<init>"), (0, u "()V"), (0, .fieldref 8 9), (0, .class_ 10), (0, .nameAndType 11 12), (0, u "com/example/codicil/codicil/BlobReader"), (0, u "bytes"), (0, u "[B"), (0, .fieldref 8 14), (0, .nameAndType 15 16), (0, u "end"), (0, u "I"), (0, .fieldref 8 18), (0, .nameAndType 19 16), (0, u "kind"), (0, .fieldref 8 21), (0, .nameAndType 22 16), (0, u "position"), (42, .methodref 8 66), (0, .nameAndType 5 67), (0, u "([BIII)V"), (3, u "([B)Lcom/example/codicil/codicil/BlobReader;"), (22, u "remaining"), (0, u "()I"), (70, u "readByte"), (73, u "over"), (3, u "()[B")] 73

def k2c0 : Code := { maxStack := 2, maxLocals := 5, code := prog_3_method_1_code, exceptionTable := #[], attributes := #[] }
def k2m0 : Method := { name := "<init>", desc := "([BIII)V", sig := { parameters := [(.array .byte), .int, .int, .int], returnType := none }, accessFlags := 2, code := some k2c0 }
def k2c1 : Code := { maxStack := 6, maxLocals := 1, code := prog_3_method_3_code, exceptionTable := #[], attributes := #[] }
def k2m1 : Method := { name := "over", desc := "([B)Lcom/example/codicil/codicil/BlobReader;", sig := { parameters := [(.array .byte)], returnType := some (.object "com/example/codicil/codicil/BlobReader") }, accessFlags := 8, code := some k2c1 }
def k2c2 : Code := { maxStack := 1, maxLocals := 1, code := prog_3_method_5_code, exceptionTable := #[], attributes := #[] }
def k2m2 : Method := { name := "kind", desc := "()I", sig := { parameters := [], returnType := some .int }, accessFlags := 0, code := some k2c2 }
def k2c3 : Code := { maxStack := 2, maxLocals := 1, code := prog_3_method_6_code, exceptionTable := #[], attributes := #[] }
def k2m3 : Method := { name := "remaining", desc := "()I", sig := { parameters := [], returnType := some .int }, accessFlags := 0, code := some k2c3 }
def k2c4 : Code := { maxStack := 1, maxLocals := 1, code := prog_3_method_7_code, exceptionTable := #[], attributes := #[] }
def k2m4 : Method := { name := "position", desc := "()I", sig := { parameters := [], returnType := some .int }, accessFlags := 0, code := some k2c4 }
def k2c5 : Code := { maxStack := 1, maxLocals := 1, code := prog_3_method_9_code, exceptionTable := #[], attributes := #[] }
def k2m5 : Method := { name := "bytes", desc := "()[B", sig := { parameters := [], returnType := some (.array .byte) }, accessFlags := 0, code := some k2c5 }
def k2c6 : Code := { maxStack := 5, maxLocals := 1, code := prog_3_method_12_code, exceptionTable := #[], attributes := #[] }
def k2m6 : Method := { name := "readByte", desc := "()I", sig := { parameters := [], returnType := some .int }, accessFlags := 0, code := some k2c6 }
/-- com/example/codicil/codicil/BlobReader -/
def k2 : Class := { plain "com/example/codicil/codicil/BlobReader" (some 0) with
  accessFlags := 48
  interfaces := #[]
  cf := some (fileOf pool2 8 #[] #[{ accessFlags := 2, nameIndex := 5, descriptorIndex := 67, attributes := #[] }, { accessFlags := 8, nameIndex := 240, descriptorIndex := 71, attributes := #[] }, { accessFlags := 0, nameIndex := 19, descriptorIndex := 95, attributes := #[] }, { accessFlags := 0, nameIndex := 94, descriptorIndex := 95, attributes := #[] }, { accessFlags := 0, nameIndex := 22, descriptorIndex := 95, attributes := #[] }, { accessFlags := 0, nameIndex := 11, descriptorIndex := 244, attributes := #[] }, { accessFlags := 0, nameIndex := 166, descriptorIndex := 95, attributes := #[] }] 48 2 #[] #[{ accessFlags := 18, nameIndex := 11, descriptorIndex := 12, attributes := #[] }, { accessFlags := 18, nameIndex := 15, descriptorIndex := 16, attributes := #[] }, { accessFlags := 18, nameIndex := 19, descriptorIndex := 16, attributes := #[] }, { accessFlags := 2, nameIndex := 22, descriptorIndex := 16, attributes := #[] }])
  fields := #[{ name := "bytes", type := (.array .byte), accessFlags := 18, slot := 0, constantValue := 0 }, { name := "end", type := .int, accessFlags := 18, slot := 1, constantValue := 0 }, { name := "kind", type := .int, accessFlags := 18, slot := 2, constantValue := 0 }, { name := "position", type := .int, accessFlags := 2, slot := 3, constantValue := 0 }]
  methods := #[k2m0, k2m1, k2m2, k2m3, k2m4, k2m5, k2m6]
  instanceTypes := #[(.array .byte), .int, .int, .int]
  staticTypes := #[]
  resolved := Array.replicate 318 none
  statics := none }

def pool3 : Array CpInfo := pool [(1, u "java/lang/Cloneable"), (0, .class_ 1), (0, u "java/lang/Object"), (0, .class_ 3)] 3

/-- java/lang/Cloneable -/
def k3 : Class := { plain "java/lang/Cloneable" (some 0) with
  accessFlags := 1537
  interfaces := #[]
  cf := some (fileOf pool3 2 #[] #[] 1537 4 #[] #[])
  fields := #[]
  methods := #[]
  instanceTypes := #[]
  staticTypes := #[]
  resolved := Array.replicate 8 none
  statics := none }

def pool4 : Array CpInfo := pool [(1, u "java/io/Serializable"), (0, .class_ 1), (0, u "java/lang/Object"), (0, .class_ 3)] 3

/-- java/io/Serializable -/
def k4 : Class := { plain "java/io/Serializable" (some 0) with
  accessFlags := 1537
  interfaces := #[]
  cf := some (fileOf pool4 2 #[] #[] 1537 4 #[] #[])
  fields := #[]
  methods := #[]
  instanceTypes := #[]
  staticTypes := #[]
  resolved := Array.replicate 8 none
  statics := none }

/-- the primitive byte -/
def k5 : Class := { plain "byte" none with kind := .primitive 'B', accessFlags := 0x411 }
/-- [B -/
def k6 : Class := { plain "[B" (some 0) with kind := .array 5 .byte, interfaces := #[3, 4], accessFlags := 1041 }

/-- the primitive int -/
def k7 : Class := { plain "int" none with kind := .primitive 'I', accessFlags := 0x411 }
/-- [I -/
def k8 : Class := { plain "[I" (some 0) with kind := .array 7 .int, interfaces := #[3, 4], accessFlags := 1041 }

def heap : Heap := #[]
def classes : Array Class := #[k0, k1, k2, k3, k4, k5, k6, k7, k8]
def interned : List (Array UInt16 × Addr) := []
def slotsUsed : Nat := 0
def theMethod : MethodId := ⟨1, 1⟩
def args0 : Array Value := #[.int 5, .int 5, .int 5, .int 5, .int 5]
def aboutOver (below : List Frame) : State where
  vm := { classes := classes, interned := interned.toArray }
  heap := heap
  slotsUsed := slotsUsed
  threads := #[{ frames := .invoking theMethod args0 :: below }]
def below0 : List Frame := [.native { method := ⟨0, 0⟩, args := #[] }]
def about1 : State := aboutOver below0
def p0 : Program := .bare "" "" ""
def e0 : Env := launch0.env 0 0 0
theorem w_frames : about1.frames = Frame.invoking theMethod args0 :: below0 := rfl
set_option maxRecDepth 65536 in
theorem w_args : argsFit about1.vm theMethod args0 = true := by decide +kernel
set_option maxRecDepth 65536 in
theorem w_heap : heapFits about1 = true := by decide +kernel
set_option maxRecDepth 65536 in
theorem w_runnable : about1.curStatus? = some .runnable := by decide +kernel
set_option maxRecDepth 65536 in
theorem w_alone : about1.alone = true := by decide +kernel
set_option maxRecDepth 65536 in
theorem w_named : about1.methodNamed? x = some theMethod := by decide +kernel
set_option maxRecDepth 65536 in
theorem w_hears : about1.hears theMethod below0 = true := by decide +kernel
set_option maxRecDepth 65536 in
theorem w_ripe : about1.ripe theMethod args0 below0 = true := by decide +kernel
theorem w_running : about1.status = .running := rfl
set_option maxRecDepth 65536 in
theorem w_room : about1.hasRoom e0.platform room_1 = true :=
  launch0.hasRoom_least _ room_1 (by decide +kernel) (by decide +kernel) (by decide +kernel) (by decide +kernel) (by decide +kernel) (by decide +kernel)
theorem allAtoms_all (ts : List Jvm.Cond) (a : Array Jvm.Value) (st : Jvm.State) : (allAtoms ts).before a st = ts.all (fun c => c.before a st) := by
  induction ts with
  | nil => rfl
  | cons c t ih =>
    show (Jvm.Cond.and c (allAtoms t)).before a st = _
    rw [Jvm.Cond.before_and, ih, List.all_cons]
def words1 : List Jvm.Cond := Jvm.Cond.code x code maxLocals ret :: tables_1
/-- a 'code' word, met by the world's own term for the bytes: nothing is compared byte by byte -/
theorem code_word {y : MethodName} {bytes : ByteArray} {mx : Nat} {rt : Option FieldType} {a : Array Value} {s : State} {m : MethodId} {meth : Method} {c : Code} (h1 : s.methodNamed? y = some m) (h2 : s.vm.method? m = some meth) (h3 : meth.code = some c) (h4 : c.code = bytes)
    (h5 : (c.maxLocals == mx && c.exceptionTable.isEmpty && decide (c.maxStack ≤ mostOperands) && decide (meth.sig.returnType = rt) && !meth.locks && decide (parseMethodDescriptor y.desc = some meth.sig)) = true) : (Jvm.Cond.code y bytes mx rt).before a s = true := by
  simp only [Bool.and_eq_true, beq_iff_eq, Bool.not_eq_true', decide_eq_true_eq] at h5
  obtain ⟨⟨⟨⟨⟨g1, g2⟩, g3⟩, g4⟩, g5⟩, g6⟩ := h5
  simp [Cond.before, Cond.holds, Cond.value, h1, h2, h3, h4, g1, g2, g3, g4, g5, g6]
def isCode : Jvm.Cond → Bool
  | .code _ _ _ _ => true
  | _ => false
theorem all_split {L : List Jvm.Cond} {P : Jvm.Cond → Bool} (h1 : L.all (fun c => isCode c || P c) = true) (h2 : ∀ c ∈ L.filter isCode, P c = true) : L.all P = true := by
  refine List.all_eq_true.mpr fun c hc => ?_
  have h := List.all_eq_true.mp h1 c hc
  rcases Bool.eq_false_or_eq_true (isCode c) with hi | hi
  · exact h2 c (List.mem_filter.mpr ⟨hc, hi⟩)
  · simpa [hi] using h
set_option maxRecDepth 65536 in
theorem w_c0 : (Jvm.Cond.code x code maxLocals ret).before args0 about1 = true := code_word (m := ⟨1, 1⟩) (meth := k1m1) (c := k1c1) (by decide +kernel) rfl rfl rfl (by decide +kernel)
set_option maxRecDepth 65536 in
theorem w_c1 : (Jvm.Cond.code ({ cls := "com/example/codicil/codicil/BlobReader", name := "over", desc := "([B)Lcom/example/codicil/codicil/BlobReader;" } : Jvm.MethodName) prog_3_method_3_code (1 : Nat) (Option.some (Jvm.ClassFile.FieldType.object "com/example/codicil/codicil/BlobReader"))).before args0 about1 = true := code_word (m := ⟨2, 1⟩) (meth := k2m1) (c := k2c1) (by decide +kernel) rfl rfl rfl (by decide +kernel)
set_option maxRecDepth 65536 in
theorem w_c2 : (Jvm.Cond.code ({ cls := "com/example/codicil/codicil/BlobReader", name := "<init>", desc := "([BIII)V" } : Jvm.MethodName) prog_3_method_1_code (5 : Nat) (Option.none : Option Jvm.ClassFile.FieldType)).before args0 about1 = true := code_word (m := ⟨2, 0⟩) (meth := k2m0) (c := k2c0) (by decide +kernel) rfl rfl rfl (by decide +kernel)
set_option maxRecDepth 65536 in
theorem w_c3 : (Jvm.Cond.code ({ cls := "java/lang/Object", name := "<init>", desc := "()V" } : Jvm.MethodName) object_method_1_code (1 : Nat) (Option.none : Option Jvm.ClassFile.FieldType)).before args0 about1 = true := code_word (m := ⟨0, 0⟩) (meth := k0m0) (c := k0c0) (by decide +kernel) rfl rfl rfl (by decide +kernel)
set_option maxRecDepth 65536 in
theorem w_c4 : (Jvm.Cond.code ({ cls := "com/example/codicil/codicil/BlobReader", name := "position", desc := "()I" } : Jvm.MethodName) prog_3_method_7_code (1 : Nat) (Option.some Jvm.ClassFile.FieldType.int)).before args0 about1 = true := code_word (m := ⟨2, 4⟩) (meth := k2m4) (c := k2c4) (by decide +kernel) rfl rfl rfl (by decide +kernel)
set_option maxRecDepth 65536 in
theorem w_c5 : (Jvm.Cond.code ({ cls := "com/example/codicil/codicil/BlobReader", name := "remaining", desc := "()I" } : Jvm.MethodName) prog_3_method_6_code (1 : Nat) (Option.some Jvm.ClassFile.FieldType.int)).before args0 about1 = true := code_word (m := ⟨2, 3⟩) (meth := k2m3) (c := k2c3) (by decide +kernel) rfl rfl rfl (by decide +kernel)
set_option maxRecDepth 65536 in
theorem w_c6 : (Jvm.Cond.code ({ cls := "com/example/codicil/codicil/BlobReader", name := "kind", desc := "()I" } : Jvm.MethodName) prog_3_method_5_code (1 : Nat) (Option.some Jvm.ClassFile.FieldType.int)).before args0 about1 = true := code_word (m := ⟨2, 2⟩) (meth := k2m2) (c := k2c2) (by decide +kernel) rfl rfl rfl (by decide +kernel)
set_option maxRecDepth 65536 in
theorem w_c7 : (Jvm.Cond.code ({ cls := "com/example/codicil/codicil/BlobReader", name := "bytes", desc := "()[B" } : Jvm.MethodName) prog_3_method_9_code (1 : Nat) (Option.some (Jvm.ClassFile.FieldType.array Jvm.ClassFile.FieldType.byte))).before args0 about1 = true := code_word (m := ⟨2, 5⟩) (meth := k2m5) (c := k2c5) (by decide +kernel) rfl rfl rfl (by decide +kernel)
set_option maxRecDepth 65536 in
theorem w_c8 : (Jvm.Cond.code ({ cls := "com/example/codicil/codicil/BlobReader", name := "readByte", desc := "()I" } : Jvm.MethodName) prog_3_method_12_code (1 : Nat) (Option.some Jvm.ClassFile.FieldType.int)).before args0 about1 = true := code_word (m := ⟨2, 6⟩) (meth := k2m6) (c := k2c6) (by decide +kernel) rfl rfl rfl (by decide +kernel)
def codes1 : List Jvm.Cond := [Jvm.Cond.code x code maxLocals ret, Jvm.Cond.code ({ cls := "com/example/codicil/codicil/BlobReader", name := "over", desc := "([B)Lcom/example/codicil/codicil/BlobReader;" } : Jvm.MethodName) prog_3_method_3_code (1 : Nat) (Option.some (Jvm.ClassFile.FieldType.object "com/example/codicil/codicil/BlobReader")), Jvm.Cond.code ({ cls := "com/example/codicil/codicil/BlobReader", name := "<init>", desc := "([BIII)V" } : Jvm.MethodName) prog_3_method_1_code (5 : Nat) (Option.none : Option Jvm.ClassFile.FieldType), Jvm.Cond.code ({ cls := "java/lang/Object", name := "<init>", desc := "()V" } : Jvm.MethodName) object_method_1_code (1 : Nat) (Option.none : Option Jvm.ClassFile.FieldType), Jvm.Cond.code ({ cls := "com/example/codicil/codicil/BlobReader", name := "position", desc := "()I" } : Jvm.MethodName) prog_3_method_7_code (1 : Nat) (Option.some Jvm.ClassFile.FieldType.int), Jvm.Cond.code ({ cls := "com/example/codicil/codicil/BlobReader", name := "remaining", desc := "()I" } : Jvm.MethodName) prog_3_method_6_code (1 : Nat) (Option.some Jvm.ClassFile.FieldType.int), Jvm.Cond.code ({ cls := "com/example/codicil/codicil/BlobReader", name := "kind", desc := "()I" } : Jvm.MethodName) prog_3_method_5_code (1 : Nat) (Option.some Jvm.ClassFile.FieldType.int), Jvm.Cond.code ({ cls := "com/example/codicil/codicil/BlobReader", name := "bytes", desc := "()[B" } : Jvm.MethodName) prog_3_method_9_code (1 : Nat) (Option.some (Jvm.ClassFile.FieldType.array Jvm.ClassFile.FieldType.byte)), Jvm.Cond.code ({ cls := "com/example/codicil/codicil/BlobReader", name := "readByte", desc := "()I" } : Jvm.MethodName) prog_3_method_12_code (1 : Nat) (Option.some Jvm.ClassFile.FieldType.int)]
set_option maxRecDepth 65536 in
theorem codes_eq : words1.filter isCode = codes1 := rfl
theorem w_codes : ∀ c ∈ words1.filter isCode, c.before args0 about1 = true := by
  rw [codes_eq]
  intro c hc
  simp only [codes1, List.mem_cons, List.not_mem_nil, or_false] at hc
  rcases hc with rfl | rfl | rfl | rfl | rfl | rfl | rfl | rfl | rfl
  · exact w_c0
  · exact w_c1
  · exact w_c2
  · exact w_c3
  · exact w_c4
  · exact w_c5
  · exact w_c6
  · exact w_c7
  · exact w_c8
set_option maxRecDepth 65536 in
theorem w_t1 : (words1.take 24).all (fun c => isCode c || c.before args0 about1) = true := by decide +kernel
set_option maxRecDepth 65536 in
theorem w_t2 : (words1.drop 24).all (fun c => isCode c || c.before args0 about1) = true := by decide +kernel
theorem w_tables : (allAtoms (Jvm.Cond.code x code maxLocals ret :: tables_1)).before args0 about1 = true := by
  rw [allAtoms_all]
  show words1.all (fun c => c.before args0 about1) = true
  refine all_split ?_ w_codes
  rw [← List.take_append_drop 24 words1, List.all_append, w_t1, w_t2]
  rfl
set_option maxRecDepth 65536 in
theorem w_case : (Jvm.Cond.and given_1 narrow_1).before args0 about1 = true := by decide +kernel
theorem w_applies : (headSpec (Jvm.Cond.code x code maxLocals ret :: tables_1) room_1).applies x e0.platform about1 = true :=
  (Spec.applies_iff w_frames).mpr ⟨w_running, w_runnable, w_alone, w_named, w_hears, w_ripe, w_room, w_tables⟩
theorem atStart : AtStart classFile x code maxLocals ret World_1 tables_1 room_1 Calls_1 rest_1 Pre_1 launch0 p0 e0 about1 theMethod args0 below0 :=
  ⟨lists_1, trivial, launch0.admits_env _ _ _, launch0.least_env, fairChoices_fair.cas, fairChoices_fair.clock, w_frames, w_args, w_heap, w_applies, trivial, trivial, w_case⟩
end start1
theorem witness_1 : WitnessClaimed_1 := ⟨start1.p0, start1.e0, start1.about1, start1.theMethod, start1.args0, start1.below0, start1.atStart⟩
end Jvm.Pilot.@@N@@
