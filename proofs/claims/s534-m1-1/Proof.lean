import JvmDerived
import JvmDerived.Pilot.@@N@@Statement
import JvmDerived.Pilot.@@N@@Code
set_option linter.unusedVariables false
set_option linter.unusedSimpArgs false
namespace Jvm.Pilot.@@N@@
open Jvm Jvm.ClassFile Sem Op Lib Jvm.Free Jvm.Stand Jvm.LawKit Jvm.RoadKit Bundle Jvm.Pilot.@@N@@.Jvm.D
section Layer
variable {p : Program} {l : Launch} {e : Env} {R : Room} {s : State} {m : MethodId} {args : Array Value} {below : List Frame} {meth : Method} {c : Code} {T : State} {locs : List Loc} {cells slots : Nat} {Q : Option Value → Heap → List Loc → Prop} {K N : Nat} {pc n : Nat} {Ls : Array Slot} {rest st : List Value} {Z : State} {a0 : Array Value} {h : Heap}
/-- from st on the invocation ends as Q says -/
def Goes (p : Program) (e : Env) (below : List Frame) (s : State) (Q : Option Value → Heap → List Loc → Prop) (K N : Nat) (st : State) : Prop :=
  ∃ s₂ o, Steps p.tables e below st s₂ ∧ s₂.status = .running ∧ Ended s₂ below o ∧ ∃ v L, o = .returned v ∧ Q v s₂.heap L ∧ FrameEnd s o s₂ L K N
theorem Goes.via {st st' : State} (g : Goes p e below s Q K N st') (h : ∀ t, Steps p.tables e below st' t → Steps p.tables e below st t) : Goes p e below s Q K N st := by
  obtain ⟨s₂, o, h1, r⟩ := g
  exact ⟨s₂, o, h _ h1, r⟩
/-- a body's contract -/
def Does (l : Launch) (Z : State) (y : MethodName) (bytes : ByteArray) (maxL : Nat) (ret : Option FieldType) (ws : List Jvm.Cond) (rm : Room) (as : Array Value) (h : Heap) (Q : Option Value → Heap → List Loc → Prop) : Prop :=
  MetFree l y (head1 (Jvm.Cond.code y bytes maxL ret :: ws) rm) (fun a U => a = as ∧ Z.Warmed39 U.vm ∧ U.heap = h) (fun _ _ _ _ _ => True) (fun _ U o U' => ∃ v L, o = .returned v ∧ Q v U'.heap L ∧ FrameEnd U o U' L rm.cells rm.slots)
theorem Does.of {y : MethodName} {bytes : ByteArray} {maxL : Nat} {ret : Option FieldType} {ws : List Jvm.Cond} {rm : Room} {as : Array Value} (hpl : plainFor y = true)
    (body : ∀ (p : Program) (e : Env) (s : State) (m : MethodId) (below : List Frame) (meth : Method) (c : Code) (T : State), p.tables.exec = Jvm.exec → c.code = bytes → c.maxLocals = maxL → s.vm.findClass y.cls = some m.cls → meth.name = y.name → meth.sig.returnType = ret → meth.locks = false → Z.Warmed39 s.vm → Stand p l e rm s m as below meth c T [] 0 0 → T.heap = h → Goes p e below s Q rm.cells rm.slots (T.setTop (entryFrame m as maxL))) : Does l Z y bytes maxL ret ws rm as h Q := by
  refine MetFree.of_bodySF hpl hisR ?_
  intro p e s m args below meth c s₁ Bd hml0 hP hK
  obtain ⟨rfl, hZ, hh⟩ := hP
  have X0 : Stand p l e rm s m args below meth c s₁ [] 0 0 := Stand.of_body Bd
  exact body p e s m below meth c s₁ Bd.exec Bd.bytes hml0 (findClass_of_methodNamed Bd.named) (name_of_methodNamed Bd.named Bd.method).1 Bd.returns Bd.notSynchronized hZ X0 (by rw [← hh, Bd.state]; rfl)
theorem o_entry {as : Array Value} {maxL : Nat} (q : entryFrame m as maxL = mkF m 0 Ls []) (g : Goes p e below s Q K N (T.setTop (mkF m 0 Ls []))) : Goes p e below s Q K N (T.setTop (entryFrame m as maxL)) := q ▸ g
theorem o_iload (X : Stand p l e R s m args below meth c T locs cells slots) (hx : p.tables.exec = Jvm.exec) {j : Nat} {v : Int32} (hd : decode c.code pc = .ok (.iload j, 2)) (hl : Ls[j]? = some (.val (.int v))) (hn : pc + 2 = n) (g : Goes p e below s Q K N (T.setTop (mkF m n Ls (.int v :: st)))) : Goes p e below s Q K N (T.setTop (mkF m pc Ls st)) := by
  subst hn
  exact g.via fun t k => XS.iload X.here hx rfl hd hl k
theorem o_iloadN (X : Stand p l e R s m args below meth c T locs cells slots) (hx : p.tables.exec = Jvm.exec) {j : Fin 4} {v : Int32} (hd : decode c.code pc = .ok (.iload_n j, 1)) (hl : Ls[j.val]? = some (.val (.int v))) (hn : pc + 1 = n) (g : Goes p e below s Q K N (T.setTop (mkF m n Ls (.int v :: st)))) : Goes p e below s Q K N (T.setTop (mkF m pc Ls st)) := by
  subst hn
  exact g.via fun t k => XS.iloadN X.here hx rfl hd hl k
theorem o_lload (X : Stand p l e R s m args below meth c T locs cells slots) (hx : p.tables.exec = Jvm.exec) {j : Nat} {v : Int64} (hd : decode c.code pc = .ok (.lload j, 2)) (hl : Ls[j]? = some (.val (.long v))) (hn : pc + 2 = n) (g : Goes p e below s Q K N (T.setTop (mkF m n Ls (.long v :: st)))) : Goes p e below s Q K N (T.setTop (mkF m pc Ls st)) := by
  subst hn
  exact g.via fun t k => XS.lload X.here hx rfl hd hl k
theorem o_lloadN (X : Stand p l e R s m args below meth c T locs cells slots) (hx : p.tables.exec = Jvm.exec) {j : Fin 4} {v : Int64} (hd : decode c.code pc = .ok (.lload_n j, 1)) (hl : Ls[j.val]? = some (.val (.long v))) (hn : pc + 1 = n) (g : Goes p e below s Q K N (T.setTop (mkF m n Ls (.long v :: st)))) : Goes p e below s Q K N (T.setTop (mkF m pc Ls st)) := by
  subst hn
  exact g.via fun t k => XS.lloadN X.here hx rfl hd hl k
theorem o_aload (X : Stand p l e R s m args below meth c T locs cells slots) (hx : p.tables.exec = Jvm.exec) {j : Nat} {v : Value} (hd : decode c.code pc = .ok (.aload j, 2)) (hl : Ls[j]? = some (.val v)) (hv : v.isRef = true) (hn : pc + 2 = n) (g : Goes p e below s Q K N (T.setTop (mkF m n Ls (v :: st)))) : Goes p e below s Q K N (T.setTop (mkF m pc Ls st)) := by
  subst hn
  exact g.via fun t k => XS.aload X.here hx rfl hd hl hv k
theorem o_aloadN (X : Stand p l e R s m args below meth c T locs cells slots) (hx : p.tables.exec = Jvm.exec) {j : Fin 4} {v : Value} (hd : decode c.code pc = .ok (.aload_n j, 1)) (hl : Ls[j.val]? = some (.val v)) (hv : v.isRef = true) (hn : pc + 1 = n) (g : Goes p e below s Q K N (T.setTop (mkF m n Ls (v :: st)))) : Goes p e below s Q K N (T.setTop (mkF m pc Ls st)) := by
  subst hn
  exact g.via fun t k => XS.aloadN X.here hx rfl hd hl hv k
theorem o_istore (X : Stand p l e R s m args below meth c T locs cells slots) (hx : p.tables.exec = Jvm.exec) {j : Nat} {v : Int32} {Ls' : Array Slot} (hd : decode c.code pc = .ok (.istore j, 2)) (hl : storeLocals Ls j (.int v) = some Ls') (hn : pc + 2 = n) (g : Goes p e below s Q K N (T.setTop (mkF m n Ls' rest))) : Goes p e below s Q K N (T.setTop (mkF m pc Ls (.int v :: rest))) := by
  subst hn
  exact g.via fun t k => XS.istore X.here hx rfl hd rfl hl k
theorem o_istoreN (X : Stand p l e R s m args below meth c T locs cells slots) (hx : p.tables.exec = Jvm.exec) {j : Fin 4} {v : Int32} {Ls' : Array Slot} (hd : decode c.code pc = .ok (.istore_n j, 1)) (hl : storeLocals Ls j.val (.int v) = some Ls') (hn : pc + 1 = n) (g : Goes p e below s Q K N (T.setTop (mkF m n Ls' rest))) : Goes p e below s Q K N (T.setTop (mkF m pc Ls (.int v :: rest))) := by
  subst hn
  exact g.via fun t k => XS.istoreN X.here hx rfl hd rfl hl k
theorem o_lstore (X : Stand p l e R s m args below meth c T locs cells slots) (hx : p.tables.exec = Jvm.exec) {j : Nat} {v : Int64} {Ls' : Array Slot} (hd : decode c.code pc = .ok (.lstore j, 2)) (hl : storeLocals Ls j (.long v) = some Ls') (hn : pc + 2 = n) (g : Goes p e below s Q K N (T.setTop (mkF m n Ls' rest))) : Goes p e below s Q K N (T.setTop (mkF m pc Ls (.long v :: rest))) := by
  subst hn
  exact g.via fun t k => XS.lstore X.here hx rfl hd rfl hl k
theorem o_lstoreN (X : Stand p l e R s m args below meth c T locs cells slots) (hx : p.tables.exec = Jvm.exec) {j : Fin 4} {v : Int64} {Ls' : Array Slot} (hd : decode c.code pc = .ok (.lstore_n j, 1)) (hl : storeLocals Ls j.val (.long v) = some Ls') (hn : pc + 1 = n) (g : Goes p e below s Q K N (T.setTop (mkF m n Ls' rest))) : Goes p e below s Q K N (T.setTop (mkF m pc Ls (.long v :: rest))) := by
  subst hn
  exact g.via fun t k => XS.lstoreN X.here hx rfl hd rfl hl k
theorem o_astore (X : Stand p l e R s m args below meth c T locs cells slots) (hx : p.tables.exec = Jvm.exec) {j : Nat} {v : Value} {Ls' : Array Slot} (hd : decode c.code pc = .ok (.astore j, 2)) (hv : v.isRef = true) (hl : storeLocals Ls j v = some Ls') (hn : pc + 2 = n) (g : Goes p e below s Q K N (T.setTop (mkF m n Ls' rest))) : Goes p e below s Q K N (T.setTop (mkF m pc Ls (v :: rest))) := by
  subst hn
  exact g.via fun t k => XS.astore X.here hx rfl hd rfl hv hl k
theorem o_astoreN (X : Stand p l e R s m args below meth c T locs cells slots) (hx : p.tables.exec = Jvm.exec) {j : Fin 4} {v : Value} {Ls' : Array Slot} (hd : decode c.code pc = .ok (.astore_n j, 1)) (hv : v.isRef = true) (hl : storeLocals Ls j.val v = some Ls') (hn : pc + 1 = n) (g : Goes p e below s Q K N (T.setTop (mkF m n Ls' rest))) : Goes p e below s Q K N (T.setTop (mkF m pc Ls (v :: rest))) := by
  subst hn
  exact g.via fun t k => XS.astoreN X.here hx rfl hd rfl hv hl k
theorem o_iinc (X : Stand p l e R s m args below meth c T locs cells slots) (hx : p.tables.exec = Jvm.exec) {j : Nat} {cst : Int} {x w : Int32} {Ls' : Array Slot} (hd : decode c.code pc = .ok (.iinc j cst, 3)) (hl : Ls[j]? = some (.val (.int x))) (hw : x + Int32.ofInt cst = w) (hl' : storeLocals Ls j (.int w) = some Ls') (hn : pc + 3 = n) (g : Goes p e below s Q K N (T.setTop (mkF m n Ls' st))) : Goes p e below s Q K N (T.setTop (mkF m pc Ls st)) := by
  subst hn
  exact g.via fun t k => XS.iinc X.here hx rfl hd hl (by rw [hw]; exact hl') k
theorem o_iconst (X : Stand p l e R s m args below meth c T locs cells slots) (hx : p.tables.exec = Jvm.exec) {i : Int} {v : Int32} (hd : decode c.code pc = .ok (.iconst i, 1)) (hv : Int32.ofInt i = v) (hn : pc + 1 = n) (g : Goes p e below s Q K N (T.setTop (mkF m n Ls (.int v :: st)))) : Goes p e below s Q K N (T.setTop (mkF m pc Ls st)) := by
  subst hn hv
  exact g.via fun t k => XS.iconst X.here hx rfl hd k
theorem o_bipush (X : Stand p l e R s m args below meth c T locs cells slots) (hx : p.tables.exec = Jvm.exec) {i : Int} {v : Int32} (hd : decode c.code pc = .ok (.bipush i, 2)) (hv : (Int8.ofInt i).toInt32 = v) (hn : pc + 2 = n) (g : Goes p e below s Q K N (T.setTop (mkF m n Ls (.int v :: st)))) : Goes p e below s Q K N (T.setTop (mkF m pc Ls st)) := by
  subst hn hv
  exact g.via fun t k => XS.bipush X.here hx rfl hd k
theorem o_sipush (X : Stand p l e R s m args below meth c T locs cells slots) (hx : p.tables.exec = Jvm.exec) {i : Int} {v : Int32} (hd : decode c.code pc = .ok (.sipush i, 3)) (hv : (Int16.ofInt i).toInt32 = v) (hn : pc + 3 = n) (g : Goes p e below s Q K N (T.setTop (mkF m n Ls (.int v :: st)))) : Goes p e below s Q K N (T.setTop (mkF m pc Ls st)) := by
  subst hn hv
  exact g.via fun t k => XS.sipush X.here hx rfl hd k
theorem o_lconst (X : Stand p l e R s m args below meth c T locs cells slots) (hx : p.tables.exec = Jvm.exec) {j : Fin 2} {v : Int64} (hd : decode c.code pc = .ok (.lconst j, 1)) (hv : Int64.ofNat j = v) (hn : pc + 1 = n) (g : Goes p e below s Q K N (T.setTop (mkF m n Ls (.long v :: st)))) : Goes p e below s Q K N (T.setTop (mkF m pc Ls st)) := by
  subst hn hv
  exact g.via fun t k => XS.lconst X.here hx rfl hd k
theorem o_aconst_null (X : Stand p l e R s m args below meth c T locs cells slots) (hx : p.tables.exec = Jvm.exec)  (hd : decode c.code pc = .ok (.aconst_null, 1)) (hn : pc + 1 = n) (g : Goes p e below s Q K N (T.setTop (mkF m n Ls (.null :: st)))) : Goes p e below s Q K N (T.setTop (mkF m pc Ls st)) := by
  subst hn
  exact g.via fun t k => XS.aconstNull X.here hx rfl hd k
theorem o_ldc (X : Stand p l e R s m args below meth c T locs cells slots) (hx : p.tables.exec = Jvm.exec)  (hZ : Z.Warmed39 s.vm) {own : String} {index : Nat} {v : Int32} (hown : s.vm.findClass own = some m.cls) (w : (Jvm.Cond.constant own index v).before a0 Z = true) (hd : decode c.code pc = .ok (.ldc index, 2)) (hn : pc + 2 = n) (g : Goes p e below s Q K N (T.setTop (mkF m n Ls (.int v :: st)))) : Goes p e below s Q K N (T.setTop (mkF m pc Ls st)) := by
  subst hn
  exact g.via fun t k => X.ldcInt hx hown (mvT hZ w) (g := mkF m pc Ls st) rfl hd t k
theorem o_ldc_w (X : Stand p l e R s m args below meth c T locs cells slots) (hx : p.tables.exec = Jvm.exec)  (hZ : Z.Warmed39 s.vm) {own : String} {index : Nat} {v : Int32} (hown : s.vm.findClass own = some m.cls) (w : (Jvm.Cond.constant own index v).before a0 Z = true) (hd : decode c.code pc = .ok (.ldc_w index, 3)) (hn : pc + 3 = n) (g : Goes p e below s Q K N (T.setTop (mkF m n Ls (.int v :: st)))) : Goes p e below s Q K N (T.setTop (mkF m pc Ls st)) := by
  subst hn
  exact g.via fun t k => X.ldcWInt hx hown (mvT hZ w) (g := mkF m pc Ls st) rfl hd t k
theorem o_ldc2_w (X : Stand p l e R s m args below meth c T locs cells slots) (hx : p.tables.exec = Jvm.exec)  (hZ : Z.Warmed39 s.vm) {own : String} {index : Nat} {v : Int64} (hown : s.vm.findClass own = some m.cls) (w : (Jvm.Cond.constantLong own index v).before a0 Z = true) (hd : decode c.code pc = .ok (.ldc2_w index, 3)) (hn : pc + 3 = n) (g : Goes p e below s Q K N (T.setTop (mkF m n Ls (.long v :: st)))) : Goes p e below s Q K N (T.setTop (mkF m pc Ls st)) := by
  subst hn
  exact g.via fun t k => X.ldc2Long hx hown (mvT hZ w) (g := mkF m pc Ls st) rfl hd t k
theorem o_iadd (X : Stand p l e R s m args below meth c T locs cells slots) (hx : p.tables.exec = Jvm.exec) {x y v : Int32} (hd : decode c.code pc = .ok (.iadd, 1)) (hv : x + y = v) (hn : pc + 1 = n) (g : Goes p e below s Q K N (T.setTop (mkF m n Ls (.int v :: rest)))) : Goes p e below s Q K N (T.setTop (mkF m pc Ls (.int y :: .int x :: rest))) := by
  subst hn hv
  exact g.via fun t k => XS.iadd X.here hx rfl hd rfl k
theorem o_isub (X : Stand p l e R s m args below meth c T locs cells slots) (hx : p.tables.exec = Jvm.exec) {x y v : Int32} (hd : decode c.code pc = .ok (.isub, 1)) (hv : x - y = v) (hn : pc + 1 = n) (g : Goes p e below s Q K N (T.setTop (mkF m n Ls (.int v :: rest)))) : Goes p e below s Q K N (T.setTop (mkF m pc Ls (.int y :: .int x :: rest))) := by
  subst hn hv
  exact g.via fun t k => XS.isub X.here hx rfl hd rfl k
theorem o_imul (X : Stand p l e R s m args below meth c T locs cells slots) (hx : p.tables.exec = Jvm.exec) {x y v : Int32} (hd : decode c.code pc = .ok (.imul, 1)) (hv : x * y = v) (hn : pc + 1 = n) (g : Goes p e below s Q K N (T.setTop (mkF m n Ls (.int v :: rest)))) : Goes p e below s Q K N (T.setTop (mkF m pc Ls (.int y :: .int x :: rest))) := by
  subst hn hv
  exact g.via fun t k => XS.imul X.here hx rfl hd rfl k
theorem o_iand (X : Stand p l e R s m args below meth c T locs cells slots) (hx : p.tables.exec = Jvm.exec) {x y v : Int32} (hd : decode c.code pc = .ok (.iand, 1)) (hv : x &&& y = v) (hn : pc + 1 = n) (g : Goes p e below s Q K N (T.setTop (mkF m n Ls (.int v :: rest)))) : Goes p e below s Q K N (T.setTop (mkF m pc Ls (.int y :: .int x :: rest))) := by
  subst hn hv
  exact g.via fun t k => XS.iand X.here hx rfl hd rfl k
theorem o_ior (X : Stand p l e R s m args below meth c T locs cells slots) (hx : p.tables.exec = Jvm.exec) {x y v : Int32} (hd : decode c.code pc = .ok (.ior, 1)) (hv : x ||| y = v) (hn : pc + 1 = n) (g : Goes p e below s Q K N (T.setTop (mkF m n Ls (.int v :: rest)))) : Goes p e below s Q K N (T.setTop (mkF m pc Ls (.int y :: .int x :: rest))) := by
  subst hn hv
  exact g.via fun t k => XS.ior X.here hx rfl hd rfl k
theorem o_ixor (X : Stand p l e R s m args below meth c T locs cells slots) (hx : p.tables.exec = Jvm.exec) {x y v : Int32} (hd : decode c.code pc = .ok (.ixor, 1)) (hv : x ^^^ y = v) (hn : pc + 1 = n) (g : Goes p e below s Q K N (T.setTop (mkF m n Ls (.int v :: rest)))) : Goes p e below s Q K N (T.setTop (mkF m pc Ls (.int y :: .int x :: rest))) := by
  subst hn hv
  exact g.via fun t k => XS.ixor X.here hx rfl hd rfl k
theorem o_ladd (X : Stand p l e R s m args below meth c T locs cells slots) (hx : p.tables.exec = Jvm.exec) {x y v : Int64} (hd : decode c.code pc = .ok (.ladd, 1)) (hv : x + y = v) (hn : pc + 1 = n) (g : Goes p e below s Q K N (T.setTop (mkF m n Ls (.long v :: rest)))) : Goes p e below s Q K N (T.setTop (mkF m pc Ls (.long y :: .long x :: rest))) := by
  subst hn hv
  exact g.via fun t k => XS.ladd X.here hx rfl hd rfl k
theorem o_lsub (X : Stand p l e R s m args below meth c T locs cells slots) (hx : p.tables.exec = Jvm.exec) {x y v : Int64} (hd : decode c.code pc = .ok (.lsub, 1)) (hv : x - y = v) (hn : pc + 1 = n) (g : Goes p e below s Q K N (T.setTop (mkF m n Ls (.long v :: rest)))) : Goes p e below s Q K N (T.setTop (mkF m pc Ls (.long y :: .long x :: rest))) := by
  subst hn hv
  exact g.via fun t k => XS.lsub X.here hx rfl hd rfl k
theorem o_lmul (X : Stand p l e R s m args below meth c T locs cells slots) (hx : p.tables.exec = Jvm.exec) {x y v : Int64} (hd : decode c.code pc = .ok (.lmul, 1)) (hv : x * y = v) (hn : pc + 1 = n) (g : Goes p e below s Q K N (T.setTop (mkF m n Ls (.long v :: rest)))) : Goes p e below s Q K N (T.setTop (mkF m pc Ls (.long y :: .long x :: rest))) := by
  subst hn hv
  exact g.via fun t k => XS.lmul X.here hx rfl hd rfl k
theorem o_land (X : Stand p l e R s m args below meth c T locs cells slots) (hx : p.tables.exec = Jvm.exec) {x y v : Int64} (hd : decode c.code pc = .ok (.land, 1)) (hv : x &&& y = v) (hn : pc + 1 = n) (g : Goes p e below s Q K N (T.setTop (mkF m n Ls (.long v :: rest)))) : Goes p e below s Q K N (T.setTop (mkF m pc Ls (.long y :: .long x :: rest))) := by
  subst hn hv
  exact g.via fun t k => XS.land X.here hx rfl hd rfl k
theorem o_lor (X : Stand p l e R s m args below meth c T locs cells slots) (hx : p.tables.exec = Jvm.exec) {x y v : Int64} (hd : decode c.code pc = .ok (.lor, 1)) (hv : x ||| y = v) (hn : pc + 1 = n) (g : Goes p e below s Q K N (T.setTop (mkF m n Ls (.long v :: rest)))) : Goes p e below s Q K N (T.setTop (mkF m pc Ls (.long y :: .long x :: rest))) := by
  subst hn hv
  exact g.via fun t k => XS.lor X.here hx rfl hd rfl k
theorem o_lxor (X : Stand p l e R s m args below meth c T locs cells slots) (hx : p.tables.exec = Jvm.exec) {x y v : Int64} (hd : decode c.code pc = .ok (.lxor, 1)) (hv : x ^^^ y = v) (hn : pc + 1 = n) (g : Goes p e below s Q K N (T.setTop (mkF m n Ls (.long v :: rest)))) : Goes p e below s Q K N (T.setTop (mkF m pc Ls (.long y :: .long x :: rest))) := by
  subst hn hv
  exact g.via fun t k => XS.lxor X.here hx rfl hd rfl k
theorem o_idiv (X : Stand p l e R s m args below meth c T locs cells slots) (hx : p.tables.exec = Jvm.exec) {x y v : Int32} (hd : decode c.code pc = .ok (.idiv, 1)) (hy : y ≠ 0) (hv : x / y = v) (hn : pc + 1 = n) (g : Goes p e below s Q K N (T.setTop (mkF m n Ls (.int v :: rest)))) : Goes p e below s Q K N (T.setTop (mkF m pc Ls (.int y :: .int x :: rest))) := by
  subst hn hv
  exact g.via fun t k => XS.idiv X.here hx rfl hd rfl hy k
theorem o_irem (X : Stand p l e R s m args below meth c T locs cells slots) (hx : p.tables.exec = Jvm.exec) {x y v : Int32} (hd : decode c.code pc = .ok (.irem, 1)) (hy : y ≠ 0) (hv : x % y = v) (hn : pc + 1 = n) (g : Goes p e below s Q K N (T.setTop (mkF m n Ls (.int v :: rest)))) : Goes p e below s Q K N (T.setTop (mkF m pc Ls (.int y :: .int x :: rest))) := by
  subst hn hv
  exact g.via fun t k => iremM X hx (g := mkF m pc Ls _) rfl hd rfl hy k
theorem o_ldiv (X : Stand p l e R s m args below meth c T locs cells slots) (hx : p.tables.exec = Jvm.exec) {x y v : Int64} (hd : decode c.code pc = .ok (.ldiv, 1)) (hy : y ≠ 0) (hv : x / y = v) (hn : pc + 1 = n) (g : Goes p e below s Q K N (T.setTop (mkF m n Ls (.long v :: rest)))) : Goes p e below s Q K N (T.setTop (mkF m pc Ls (.long y :: .long x :: rest))) := by
  subst hn hv
  exact g.via fun t k => XS.ldiv X.here hx rfl hd rfl hy k
theorem o_lrem (X : Stand p l e R s m args below meth c T locs cells slots) (hx : p.tables.exec = Jvm.exec) {x y v : Int64} (hd : decode c.code pc = .ok (.lrem, 1)) (hy : y ≠ 0) (hv : x % y = v) (hn : pc + 1 = n) (g : Goes p e below s Q K N (T.setTop (mkF m n Ls (.long v :: rest)))) : Goes p e below s Q K N (T.setTop (mkF m pc Ls (.long y :: .long x :: rest))) := by
  subst hn hv
  exact g.via fun t k => XS.lrem X.here hx rfl hd rfl hy (by rw [lrem_mod]; exact k)
theorem o_ishl (X : Stand p l e R s m args below meth c T locs cells slots) (hx : p.tables.exec = Jvm.exec) {x y v : Int32} (hd : decode c.code pc = .ok (.ishl, 1)) (hv : x <<< (y &&& 31) = v) (hn : pc + 1 = n) (g : Goes p e below s Q K N (T.setTop (mkF m n Ls (.int v :: rest)))) : Goes p e below s Q K N (T.setTop (mkF m pc Ls (.int y :: .int x :: rest))) := by
  subst hn hv
  exact g.via fun t k => XS.ishl X.here hx rfl hd rfl k
theorem o_ishr (X : Stand p l e R s m args below meth c T locs cells slots) (hx : p.tables.exec = Jvm.exec) {x y v : Int32} (hd : decode c.code pc = .ok (.ishr, 1)) (hv : x >>> (y &&& 31) = v) (hn : pc + 1 = n) (g : Goes p e below s Q K N (T.setTop (mkF m n Ls (.int v :: rest)))) : Goes p e below s Q K N (T.setTop (mkF m pc Ls (.int y :: .int x :: rest))) := by
  subst hn hv
  exact g.via fun t k => XS.ishr X.here hx rfl hd rfl k
theorem o_iushr (X : Stand p l e R s m args below meth c T locs cells slots) (hx : p.tables.exec = Jvm.exec) {x y v : Int32} (hd : decode c.code pc = .ok (.iushr, 1)) (hv : (x.toUInt32 >>> (y &&& 31).toUInt32).toInt32 = v) (hn : pc + 1 = n) (g : Goes p e below s Q K N (T.setTop (mkF m n Ls (.int v :: rest)))) : Goes p e below s Q K N (T.setTop (mkF m pc Ls (.int y :: .int x :: rest))) := by
  subst hn hv
  exact g.via fun t k => XS.iushr X.here hx rfl hd rfl k
theorem o_lshl (X : Stand p l e R s m args below meth c T locs cells slots) (hx : p.tables.exec = Jvm.exec) {x v : Int64} {y : Int32} (hd : decode c.code pc = .ok (.lshl, 1)) (hv : x <<< (y &&& 0x3f).toInt64 = v) (hn : pc + 1 = n) (g : Goes p e below s Q K N (T.setTop (mkF m n Ls (.long v :: rest)))) : Goes p e below s Q K N (T.setTop (mkF m pc Ls (.int y :: .long x :: rest))) := by
  subst hn hv
  exact g.via fun t k => XS.lshl X.here hx rfl hd rfl k
theorem o_lshr (X : Stand p l e R s m args below meth c T locs cells slots) (hx : p.tables.exec = Jvm.exec) {x v : Int64} {y : Int32} (hd : decode c.code pc = .ok (.lshr, 1)) (hv : x >>> (y &&& 0x3f).toInt64 = v) (hn : pc + 1 = n) (g : Goes p e below s Q K N (T.setTop (mkF m n Ls (.long v :: rest)))) : Goes p e below s Q K N (T.setTop (mkF m pc Ls (.int y :: .long x :: rest))) := by
  subst hn hv
  exact g.via fun t k => XS.lshr X.here hx rfl hd rfl k
theorem o_lushr (X : Stand p l e R s m args below meth c T locs cells slots) (hx : p.tables.exec = Jvm.exec) {x v : Int64} {y : Int32} (hd : decode c.code pc = .ok (.lushr, 1)) (hv : (x.toUInt64 >>> (y &&& 0x3f).toInt64.toUInt64).toInt64 = v) (hn : pc + 1 = n) (g : Goes p e below s Q K N (T.setTop (mkF m n Ls (.long v :: rest)))) : Goes p e below s Q K N (T.setTop (mkF m pc Ls (.int y :: .long x :: rest))) := by
  subst hn hv
  exact g.via fun t k => XS.lushr X.here hx rfl hd rfl k
theorem o_i2l (X : Stand p l e R s m args below meth c T locs cells slots) (hx : p.tables.exec = Jvm.exec) {x : Int32} {v : Int64} (hd : decode c.code pc = .ok (.i2l, 1)) (hv : x.toInt64 = v) (hn : pc + 1 = n) (g : Goes p e below s Q K N (T.setTop (mkF m n Ls (.long v :: rest)))) : Goes p e below s Q K N (T.setTop (mkF m pc Ls (.int x :: rest))) := by
  subst hn hv
  exact g.via fun t k => XS.i2l X.here hx rfl hd rfl k
theorem o_l2i (X : Stand p l e R s m args below meth c T locs cells slots) (hx : p.tables.exec = Jvm.exec) {x : Int64} {v : Int32} (hd : decode c.code pc = .ok (.l2i, 1)) (hv : x.toInt32 = v) (hn : pc + 1 = n) (g : Goes p e below s Q K N (T.setTop (mkF m n Ls (.int v :: rest)))) : Goes p e below s Q K N (T.setTop (mkF m pc Ls (.long x :: rest))) := by
  subst hn hv
  exact g.via fun t k => XS.l2i X.here hx rfl hd rfl k
theorem o_i2b (X : Stand p l e R s m args below meth c T locs cells slots) (hx : p.tables.exec = Jvm.exec) {x : Int32} {v : Int32} (hd : decode c.code pc = .ok (.i2b, 1)) (hv : x.toInt8.toInt32 = v) (hn : pc + 1 = n) (g : Goes p e below s Q K N (T.setTop (mkF m n Ls (.int v :: rest)))) : Goes p e below s Q K N (T.setTop (mkF m pc Ls (.int x :: rest))) := by
  subst hn hv
  exact g.via fun t k => XS.i2b X.here hx rfl hd rfl k
theorem o_i2c (X : Stand p l e R s m args below meth c T locs cells slots) (hx : p.tables.exec = Jvm.exec) {x : Int32} {v : Int32} (hd : decode c.code pc = .ok (.i2c, 1)) (hv : x.toUInt32.toUInt16.toUInt32.toInt32 = v) (hn : pc + 1 = n) (g : Goes p e below s Q K N (T.setTop (mkF m n Ls (.int v :: rest)))) : Goes p e below s Q K N (T.setTop (mkF m pc Ls (.int x :: rest))) := by
  subst hn hv
  exact g.via fun t k => XS.i2c X.here hx rfl hd rfl k
theorem o_i2s (X : Stand p l e R s m args below meth c T locs cells slots) (hx : p.tables.exec = Jvm.exec) {x : Int32} {v : Int32} (hd : decode c.code pc = .ok (.i2s, 1)) (hv : x.toInt16.toInt32 = v) (hn : pc + 1 = n) (g : Goes p e below s Q K N (T.setTop (mkF m n Ls (.int v :: rest)))) : Goes p e below s Q K N (T.setTop (mkF m pc Ls (.int x :: rest))) := by
  subst hn hv
  exact g.via fun t k => XS.i2s X.here hx rfl hd rfl k
theorem o_ineg (X : Stand p l e R s m args below meth c T locs cells slots) (hx : p.tables.exec = Jvm.exec) {x : Int32} {v : Int32} (hd : decode c.code pc = .ok (.ineg, 1)) (hv : -x = v) (hn : pc + 1 = n) (g : Goes p e below s Q K N (T.setTop (mkF m n Ls (.int v :: rest)))) : Goes p e below s Q K N (T.setTop (mkF m pc Ls (.int x :: rest))) := by
  subst hn hv
  exact g.via fun t k => XS.ineg X.here hx rfl hd rfl k
theorem o_lneg (X : Stand p l e R s m args below meth c T locs cells slots) (hx : p.tables.exec = Jvm.exec) {x : Int64} {v : Int64} (hd : decode c.code pc = .ok (.lneg, 1)) (hv : -x = v) (hn : pc + 1 = n) (g : Goes p e below s Q K N (T.setTop (mkF m n Ls (.long v :: rest)))) : Goes p e below s Q K N (T.setTop (mkF m pc Ls (.long x :: rest))) := by
  subst hn hv
  exact g.via fun t k => XS.lneg X.here hx rfl hd rfl k
theorem o_lcmp (X : Stand p l e R s m args below meth c T locs cells slots) (hx : p.tables.exec = Jvm.exec) {x y : Int64} (hd : decode c.code pc = .ok (.lcmp, 1)) (hn : pc + 1 = n) (g : Goes p e below s Q K N (T.setTop (mkF m n Ls (.int (XT.cmpL x y) :: rest)))) : Goes p e below s Q K N (T.setTop (mkF m pc Ls (.long y :: .long x :: rest))) := by
  subst hn
  exact g.via fun t k => XT.lcmp X.here hx rfl hd rfl k
theorem o_dup (X : Stand p l e R s m args below meth c T locs cells slots) (hx : p.tables.exec = Jvm.exec) {v : Value} (hd : decode c.code pc = .ok (.dup, 1)) (hv : v.category = 1) (hn : pc + 1 = n) (g : Goes p e below s Q K N (T.setTop (mkF m n Ls (v :: v :: rest)))) : Goes p e below s Q K N (T.setTop (mkF m pc Ls (v :: rest))) := by
  subst hn
  exact g.via fun t k => XS.dup X.here hx rfl hd rfl hv k
theorem o_dup_x1 (X : Stand p l e R s m args below meth c T locs cells slots) (hx : p.tables.exec = Jvm.exec) {v w : Value} (hd : decode c.code pc = .ok (.dup_x1, 1)) (hv : v.category = 1) (hw : w.category = 1) (hn : pc + 1 = n) (g : Goes p e below s Q K N (T.setTop (mkF m n Ls (v :: w :: v :: rest)))) : Goes p e below s Q K N (T.setTop (mkF m pc Ls (v :: w :: rest))) := by
  subst hn
  exact g.via fun t k => XS.dupX1 X.here hx rfl hd rfl hv hw k
theorem o_dup2 (X : Stand p l e R s m args below meth c T locs cells slots) (hx : p.tables.exec = Jvm.exec) {v w : Value} (hd : decode c.code pc = .ok (.dup2, 1)) (hv : v.category = 1) (hw : w.category = 1) (hn : pc + 1 = n) (g : Goes p e below s Q K N (T.setTop (mkF m n Ls (v :: w :: v :: w :: rest)))) : Goes p e below s Q K N (T.setTop (mkF m pc Ls (v :: w :: rest))) := by
  subst hn
  exact g.via fun t k => XT.dup2 X.here hx rfl hd rfl hv hw k
theorem o_pop (X : Stand p l e R s m args below meth c T locs cells slots) (hx : p.tables.exec = Jvm.exec) {v : Value} (hd : decode c.code pc = .ok (.pop, 1)) (hv : v.category = 1) (hn : pc + 1 = n) (g : Goes p e below s Q K N (T.setTop (mkF m n Ls rest))) : Goes p e below s Q K N (T.setTop (mkF m pc Ls (v :: rest))) := by
  subst hn
  exact g.via fun t k => XS.pop X.here hx rfl hd rfl hv k
theorem o_goto (X : Stand p l e R s m args below meth c T locs cells slots) (hx : p.tables.exec = Jvm.exec) {o : Int} (hd : decode c.code pc = .ok (.goto o, 3)) (ho : 0 ≤ (pc : Int) + o) (hn : ((pc : Int) + o).toNat = n) (g : Goes p e below s Q K N (T.setTop (mkF m n Ls st))) : Goes p e below s Q K N (T.setTop (mkF m pc Ls st)) := by
  exact g.via fun t k => XS.goto X.here hx rfl rfl hd ho hn k
theorem o_ifY (X : Stand p l e R s m args below meth c T locs cells slots) (hx : p.tables.exec = Jvm.exec) {cd : ClassFile.Cond} {x : Int32} {o : Int} (hd : decode c.code pc = .ok (.ifCond cd o, 3)) (hc : ifCond.holds cd x = true) (ho : 0 ≤ (pc : Int) + o) (hn : ((pc : Int) + o).toNat = n) (g : Goes p e below s Q K N (T.setTop (mkF m n Ls rest))) : Goes p e below s Q K N (T.setTop (mkF m pc Ls (.int x :: rest))) := by
  exact g.via fun t k => XS.ifYes X.here hx rfl rfl hd rfl hc ho hn k
theorem o_ifN (X : Stand p l e R s m args below meth c T locs cells slots) (hx : p.tables.exec = Jvm.exec) {cd : ClassFile.Cond} {x : Int32} {o : Int} (hd : decode c.code pc = .ok (.ifCond cd o, 3)) (hc : ifCond.holds cd x = false) (hn : pc + 3 = n) (g : Goes p e below s Q K N (T.setTop (mkF m n Ls rest))) : Goes p e below s Q K N (T.setTop (mkF m pc Ls (.int x :: rest))) := by
  subst hn
  exact g.via fun t k => XS.ifNo X.here hx rfl hd rfl hc k
theorem o_icmpY (X : Stand p l e R s m args below meth c T locs cells slots) (hx : p.tables.exec = Jvm.exec) {cd : ClassFile.Cond} {x y : Int32} {o : Int} (hd : decode c.code pc = .ok (.if_icmp cd o, 3)) (hc : if_icmp.holds cd x y = true) (ho : 0 ≤ (pc : Int) + o) (hn : ((pc : Int) + o).toNat = n) (g : Goes p e below s Q K N (T.setTop (mkF m n Ls rest))) : Goes p e below s Q K N (T.setTop (mkF m pc Ls (.int y :: .int x :: rest))) := by
  exact g.via fun t k => XS.icmpYes X.here hx rfl rfl hd rfl hc ho hn k
theorem o_icmpN (X : Stand p l e R s m args below meth c T locs cells slots) (hx : p.tables.exec = Jvm.exec) {cd : ClassFile.Cond} {x y : Int32} {o : Int} (hd : decode c.code pc = .ok (.if_icmp cd o, 3)) (hc : if_icmp.holds cd x y = false) (hn : pc + 3 = n) (g : Goes p e below s Q K N (T.setTop (mkF m n Ls rest))) : Goes p e below s Q K N (T.setTop (mkF m pc Ls (.int y :: .int x :: rest))) := by
  subst hn
  exact g.via fun t k => XS.icmpNo X.here hx rfl hd rfl hc k
theorem o_ifnullY (X : Stand p l e R s m args below meth c T locs cells slots) (hx : p.tables.exec = Jvm.exec) {o : Int} (hd : decode c.code pc = .ok (.ifnull o, 3)) (ho : 0 ≤ (pc : Int) + o) (hn : ((pc : Int) + o).toNat = n) (g : Goes p e below s Q K N (T.setTop (mkF m n Ls rest))) : Goes p e below s Q K N (T.setTop (mkF m pc Ls (.null :: rest))) := by
  exact g.via fun t k => XS.ifnullYes X.here hx rfl rfl hd rfl ho hn k
theorem o_ifnullN (X : Stand p l e R s m args below meth c T locs cells slots) (hx : p.tables.exec = Jvm.exec) {o : Int} {a : Addr} (hd : decode c.code pc = .ok (.ifnull o, 3)) (hn : pc + 3 = n) (g : Goes p e below s Q K N (T.setTop (mkF m n Ls rest))) : Goes p e below s Q K N (T.setTop (mkF m pc Ls (.ref a :: rest))) := by
  subst hn
  exact g.via fun t k => XS.ifnullNo X.here hx rfl hd rfl k
theorem o_ifnonnullY (X : Stand p l e R s m args below meth c T locs cells slots) (hx : p.tables.exec = Jvm.exec) {o : Int} {a : Addr} (hd : decode c.code pc = .ok (.ifnonnull o, 3)) (ho : 0 ≤ (pc : Int) + o) (hn : ((pc : Int) + o).toNat = n) (g : Goes p e below s Q K N (T.setTop (mkF m n Ls rest))) : Goes p e below s Q K N (T.setTop (mkF m pc Ls (.ref a :: rest))) := by
  exact g.via fun t k => XS.ifnonnullYes X.here hx rfl rfl hd rfl ho hn k
theorem o_ifnonnullN (X : Stand p l e R s m args below meth c T locs cells slots) (hx : p.tables.exec = Jvm.exec) {o : Int} (hd : decode c.code pc = .ok (.ifnonnull o, 3)) (hn : pc + 3 = n) (g : Goes p e below s Q K N (T.setTop (mkF m n Ls rest))) : Goes p e below s Q K N (T.setTop (mkF m pc Ls (.null :: rest))) := by
  subst hn
  exact g.via fun t k => XS.ifnonnullNo X.here hx rfl hd rfl k
theorem o_acmp (X : Stand p l e R s m args below meth c T locs cells slots) (hx : p.tables.exec = Jvm.exec) {cd : ACond} {x y : Value} {o : Int} {same : Bool} (hd : decode c.code pc = .ok (.if_acmp cd o, 3)) (h1 : x.isRef = true) (h2 : y.isRef = true) (hq : decide (x = y) = same) (ho : 0 ≤ (pc : Int) + o) (hn : n = if acV cd same = true then ((pc : Int) + o).toNat else pc + 3) (g : Goes p e below s Q K N (T.setTop (mkF m n Ls rest))) : Goes p e below s Q K N (T.setTop (mkF m pc Ls (y :: x :: rest))) := by
  exact g.via fun t k => Jvm.RoadKit.acmp X hx (g := mkF m pc Ls _) rfl h1 h2 rfl hd rfl hq ho hn k
/-! the heap -/
theorem o_getfield (X : Stand p l e R s m args below meth c T locs cells slots) (hx : p.tables.exec = Jvm.exec) (hZ : Z.Warmed39 s.vm) {own R0 O nm d host : String} {index : Nat} (hown : s.vm.findClass own = some m.cls) (w : (Jvm.Cond.fieldLink own index R0 nm d).before a0 Z = true ∨ (Jvm.Cond.fieldLinkNest own index R0 nm d host).before a0 Z = true) (via : Via Z R0 O nm d) (eT : T.heap = h) {a : Addr} {v : Value} (F : Fld Z h a O nm d v)
    (hd : decode c.code pc = .ok (.getfield index, 3)) (hn : pc + 3 = n) (k : ∀ T', Stand p l e R s m args below meth c T' locs cells slots → T'.heap = h → Goes p e below s Q K N (T'.setTop (mkF m n Ls (v :: rest)))) : Goes p e below s Q K N (T.setTop (mkF m pc Ls (.ref a :: rest))) := by
  subst hn
  obtain ⟨T', X', e', st'⟩ := getF X hx hZ hown w via eT F (g := mkF m pc Ls (.ref a :: rest)) rfl rfl hd
  exact (k T' X' e').via st'
theorem o_putfield (X : Stand p l e R s m args below meth c T locs cells slots) (hx : p.tables.exec = Jvm.exec) (hZ : Z.Warmed39 s.vm) {own R0 O nm d host C : String} {index kk : Nat} {ty : FieldType} (hown : s.vm.findClass own = some m.cls) (w : (Jvm.Cond.fieldLink own index R0 nm d).before a0 Z = true ∨ (Jvm.Cond.fieldLinkNest own index R0 nm d host).before a0 Z = true) (via : Via Z R0 O nm d) (eT : T.heap = h) {a : Addr} {v old : Value} (F : Fld Z h a O nm d old) (E : Exa Z h a C)
    (L : (Jvm.Cond.lays C O nm d).before a0 Z = true ∨ ((Jvm.Cond.laysFinal C O nm d).before a0 Z = true ∧ own = O ∧ meth.name = "<init>")) (wi : (Jvm.Cond.instantiable C kk).before a0 Z = true) (hty : parseFieldDescriptor d = some ty) (hnn : narrow ty v = v) (hf : fits ty v = true) (hd : decode c.code pc = .ok (.putfield index, 3)) (hn : pc + 3 = n)
    (k : ∀ T' h', Stand p l e R s m args below meth c T' (locs ++ [⟨a, Jvm.RoadKit.slotOf Z O nm d⟩]) cells slots → T'.heap = h' → Wr h h' a (Jvm.RoadKit.slotOf Z O nm d) v → Fld Z h' a O nm d v → Exa Z h' a C → Goes p e below s Q K N (T'.setTop (mkF m n Ls rest))) : Goes p e below s Q K N (T.setTop (mkF m pc Ls (v :: .ref a :: rest))) := by
  subst hn
  obtain ⟨T', h', X', e', W, st'⟩ := putF X hx hZ hown w via eT F E L wi hty hnn hf (g := mkF m pc Ls (v :: .ref a :: rest)) rfl rfl hd
  exact (k T' h' X' e' W (F.same W) (E.wr W)).via st'
theorem o_getstatic (X : Stand p l e R s m args below meth c T locs cells slots) (hx : p.tables.exec = Jvm.exec) (hZ : Z.Warmed39 s.vm) {own R0 O nm d host : String} {index : Nat} (hown : s.vm.findClass own = some m.cls) (w : (Jvm.Cond.fieldLink own index R0 nm d).before a0 Z = true ∨ (Jvm.Cond.fieldLinkNest own index R0 nm d host).before a0 Z = true) (via : Via Z R0 O nm d) (eT : T.heap = h) {v : Value} (F : Sta Z h O nm d v)
    (hd : decode c.code pc = .ok (.getstatic index, 3)) (hn : pc + 3 = n) (k : ∀ T', Stand p l e R s m args below meth c T' locs cells slots → T'.heap = h → Goes p e below s Q K N (T'.setTop (mkF m n Ls (v :: st)))) : Goes p e below s Q K N (T.setTop (mkF m pc Ls st)) := by
  subst hn
  obtain ⟨T', X', e', st'⟩ := getS2 X hx hZ hown w via eT F (g := mkF m pc Ls st) rfl hd
  exact (k T' X' e').via st'
theorem o_new (X : Stand p l e R s m args below meth c T locs cells slots) (hx : p.tables.exec = Jvm.exec) (hZ : Z.Warmed39 s.vm) {own C : String} {index kk : Nat} (hown : s.vm.findClass own = some m.cls) (w : (Jvm.Cond.classLink own index C).before a0 Z = true) (wi : (Jvm.Cond.instantiable C kk).before a0 Z = true) (wz : (Jvm.Cond.initialized C).before a0 Z = true) (eT : T.heap = h)
    (hd : decode c.code pc = .ok (.new index, 3)) (hc : cells + 1 ≤ R.cells) (hs : slots + kk ≤ R.slots) (hn : pc + 3 = n)
    (k : ∀ T' h' a, Stand p l e R s m args below meth c T' locs (cells + 1) (slots + kk) → T'.heap = h' → a = h.size → Ext h h' → Exa Z h' a C → (∀ {O nm d : String} {ty : FieldType}, Laid Z a0 C O nm d → parseFieldDescriptor d = some ty → Fld Z h' a O nm d (defaultValue ty)) → Goes p e below s Q K N (T'.setTop (mkF m n Ls (.ref a :: st)))) : Goes p e below s Q K N (T.setTop (mkF m pc Ls st)) := by
  subst hn
  obtain ⟨T', h', X', e', E, A, D, -, st'⟩ := newO X hx hZ hown w wi wz eT (g := mkF m pc Ls st) rfl hd hc hs
  exact (k T' h' _ X' e' rfl E A D).via st'
theorem o_newarray (X : Stand p l e R s m args below meth c T locs cells slots) (hx : p.tables.exec = Jvm.exec) (hZ : Z.Warmed39 s.vm) {aty : ArrayType} (w : (Jvm.Cond.arrayClass (newarray.typeOf aty)).before a0 Z = true) (eT : T.heap = h) {z : Int32} (hd : decode c.code pc = .ok (.newarray aty, 2)) (hz : ¬ z < 0) (cap : Nat) (hcap : z.toNatClampNeg ≤ cap) (hb : cap * 8 ≤ 536870912) (hc : cells + 1 ≤ R.cells) (hs : slots + cap ≤ R.slots) (hn : pc + 2 = n)
    (k : ∀ T' h' a cA, Stand p l e R s m args below meth c T' locs (cells + 1) (slots + cap) → T'.heap = h' → a = h.size → Ext h h' → Arv Z h' a cA (newarray.typeOf aty) z [] (defaultValue (newarray.typeOf aty)) → Goes p e below s Q K N (T'.setTop (mkF m n Ls (.ref a :: rest)))) : Goes p e below s Q K N (T.setTop (mkF m pc Ls (.int z :: rest))) := by
  subst hn
  obtain ⟨T', h', cA, X', e', E, A, st'⟩ := newP X hx hZ w eT (g := mkF m pc Ls (.int z :: rest)) rfl hd rfl hz hcap hb hc hs
  exact (k T' h' _ cA X' e' rfl E (Arv.new A hz)).via st'
theorem o_arraylength (X : Stand p l e R s m args below meth c T locs cells slots) (hx : p.tables.exec = Jvm.exec) (hZ : Z.Warmed39 s.vm) (eT : T.heap = h) {a : Addr} {k : ClassId} {ty : FieldType} {z : Int32} {vs : List Value} {dv : Value} (V : Arv Z h a k ty z vs dv) (hd : decode c.code pc = .ok (.arraylength, 1)) (hn : pc + 1 = n) (g : Goes p e below s Q K N (T.setTop (mkF m n Ls (.int z :: rest)))) : Goes p e below s Q K N (T.setTop (mkF m pc Ls (.ref a :: rest))) := by
  subst hn
  obtain ⟨cl, A, -, S, M, -, -⟩ := V
  refine g.via fun t k => X.arraylength hx (by rw [eT]; exact A.1) (State.isArrayOf_alike hZ.alike A.2.1) (g := mkF m pc Ls (.ref a :: rest)) rfl rfl hd t ?_
  rw [len_of S M]; exact k
theorem o_iaload (X : Stand p l e R s m args below meth c T locs cells slots) (hx : p.tables.exec = Jvm.exec) (hZ : Z.Warmed39 s.vm) (eT : T.heap = h) {a : Addr} {k : ClassId} {z j : Int32} {vs : List Value} {dv v : Value} (V : Arv Z h a k .int z vs dv) (i : Nat) (hi : j.toNatClampNeg = i) (hj : ¬ j < 0 ∧ j < z) (hv : vs.getD i dv = v) (hd : decode c.code pc = .ok (.iaload, 1)) (hn : pc + 1 = n) (g : Goes p e below s Q K N (T.setTop (mkF m n Ls (v :: rest)))) : Goes p e below s Q K N (T.setTop (mkF m pc Ls (.int j :: .ref a :: rest))) := by
  subst hn hi
  obtain ⟨cl, A, -, S, M, H, -⟩ := V
  exact g.via fun t k => X.iaload hx (by rw [eT]; exact A.1) (State.isArrayOf_alike hZ.alike A.2.1) A.2.2 (inb_of S hj) (Has.at H (inb_of S hj) hv) (g := mkF m pc Ls (.int j :: .ref a :: rest)) rfl rfl hd t k
theorem o_laload (X : Stand p l e R s m args below meth c T locs cells slots) (hx : p.tables.exec = Jvm.exec) (hZ : Z.Warmed39 s.vm) (eT : T.heap = h) {a : Addr} {k : ClassId} {z j : Int32} {vs : List Value} {dv v : Value} (V : Arv Z h a k .long z vs dv) (i : Nat) (hi : j.toNatClampNeg = i) (hj : ¬ j < 0 ∧ j < z) (hv : vs.getD i dv = v) (hd : decode c.code pc = .ok (.laload, 1)) (hn : pc + 1 = n) (g : Goes p e below s Q K N (T.setTop (mkF m n Ls (v :: rest)))) : Goes p e below s Q K N (T.setTop (mkF m pc Ls (.int j :: .ref a :: rest))) := by
  subst hn hi
  obtain ⟨cl, A, -, S, M, H, -⟩ := V
  exact g.via fun t k => X.laload hx (by rw [eT]; exact A.1) (State.isArrayOf_alike hZ.alike A.2.1) A.2.2 (inb_of S hj) (Has.at H (inb_of S hj) hv) (g := mkF m pc Ls (.int j :: .ref a :: rest)) rfl rfl hd t k
theorem o_baload (X : Stand p l e R s m args below meth c T locs cells slots) (hx : p.tables.exec = Jvm.exec) (hZ : Z.Warmed39 s.vm) (eT : T.heap = h) {a : Addr} {k : ClassId} {z j : Int32} {vs : List Value} {dv v : Value} (V : Arv Z h a k .byte z vs dv) (i : Nat) (hi : j.toNatClampNeg = i) (hj : ¬ j < 0 ∧ j < z) (hv : vs.getD i dv = v) (hd : decode c.code pc = .ok (.baload, 1)) (hn : pc + 1 = n) (g : Goes p e below s Q K N (T.setTop (mkF m n Ls (v :: rest)))) : Goes p e below s Q K N (T.setTop (mkF m pc Ls (.int j :: .ref a :: rest))) := by
  subst hn hi
  obtain ⟨cl, A, -, S, M, H, -⟩ := V
  exact g.via fun t k => X.baloadBytes hx (by rw [eT]; exact A.1) (State.isArrayOf_alike hZ.alike A.2.1) A.2.2 (inb_of S hj) (Has.at H (inb_of S hj) hv) (g := mkF m pc Ls (.int j :: .ref a :: rest)) rfl rfl hd t k
theorem o_baloadZ (X : Stand p l e R s m args below meth c T locs cells slots) (hx : p.tables.exec = Jvm.exec) (hZ : Z.Warmed39 s.vm) (eT : T.heap = h) {a : Addr} {k : ClassId} {z j : Int32} {vs : List Value} {dv v : Value} (V : Arv Z h a k .boolean z vs dv) (i : Nat) (hi : j.toNatClampNeg = i) (hj : ¬ j < 0 ∧ j < z) (hv : vs.getD i dv = v) (hd : decode c.code pc = .ok (.baload, 1)) (hn : pc + 1 = n) (g : Goes p e below s Q K N (T.setTop (mkF m n Ls (v :: rest)))) : Goes p e below s Q K N (T.setTop (mkF m pc Ls (.int j :: .ref a :: rest))) := by
  subst hn hi
  obtain ⟨cl, A, -, S, M, H, -⟩ := V
  exact g.via fun t k => X.baloadBooleans hx (by rw [eT]; exact A.1) (State.isArrayOf_alike hZ.alike A.2.1) A.2.2 (inb_of S hj) (Has.at H (inb_of S hj) hv) (g := mkF m pc Ls (.int j :: .ref a :: rest)) rfl rfl hd t k
theorem o_aaload (X : Stand p l e R s m args below meth c T locs cells slots) (hx : p.tables.exec = Jvm.exec) (hZ : Z.Warmed39 s.vm) (eT : T.heap = h) {a : Addr} {k : ClassId} {ty : FieldType} {z j : Int32} {vs : List Value} {dv v : Value} (V : Arv Z h a k ty z vs dv) (hty : ty.isReference = true) (i : Nat) (hi : j.toNatClampNeg = i) (hj : ¬ j < 0 ∧ j < z) (hv : vs.getD i dv = v) (hd : decode c.code pc = .ok (.aaload, 1)) (hn : pc + 1 = n) (g : Goes p e below s Q K N (T.setTop (mkF m n Ls (v :: rest)))) : Goes p e below s Q K N (T.setTop (mkF m pc Ls (.int j :: .ref a :: rest))) := by
  subst hn hi
  obtain ⟨cl, A, -, S, M, H, -⟩ := V
  exact g.via fun t k => X.aaload hx (by rw [eT]; exact A.1) (State.isArrayOf_alike hZ.alike A.2.1) hty A.2.2 (inb_of S hj) (Has.at H (inb_of S hj) hv) (g := mkF m pc Ls (.int j :: .ref a :: rest)) rfl rfl hd t k
theorem o_iastore (X : Stand p l e R s m args below meth c T locs cells slots) (hx : p.tables.exec = Jvm.exec) (hZ : Z.Warmed39 s.vm) (eT : T.heap = h) {a : Addr} {k : ClassId} {z j : Int32} {x : Int32} {vs vs' : List Value} {dv w : Value} (V : Arv Z h a k .int z vs dv) (i : Nat) (hi : j.toNatClampNeg = i) (hj : ¬ j < 0 ∧ j < z) (hlen : i < vs.length) (hw : (.int x) = w) (hvs : vs.set i w = vs') (hd : decode c.code pc = .ok (.iastore, 1)) (hn : pc + 1 = n)
    (g : ∀ T' h', Stand p l e R s m args below meth c T' (locs ++ [⟨a, j.toNatClampNeg⟩]) cells slots → T'.heap = h' → Wr h h' a j.toNatClampNeg w → Arv Z h' a k .int z vs' dv → Goes p e below s Q K N (T'.setTop (mkF m n Ls rest))) : Goes p e below s Q K N (T.setTop (mkF m pc Ls (.int x :: .int j :: .ref a :: rest))) := by
  subst hn hvs hw
  obtain ⟨cl, A, q1, S, M, H, G⟩ := V
  obtain ⟨T', h', X', e', W, st'⟩ := stI X hx hZ eT A (j := j) (inb_of S hj) (g := mkF m pc Ls (.int x :: .int j :: .ref a :: rest)) rfl rfl hd
  exact (g T' h' X' e' W (Arv.set A q1 S M H G rfl W i hi hlen)).via st'
theorem o_lastore (X : Stand p l e R s m args below meth c T locs cells slots) (hx : p.tables.exec = Jvm.exec) (hZ : Z.Warmed39 s.vm) (eT : T.heap = h) {a : Addr} {k : ClassId} {z j : Int32} {x : Int64} {vs vs' : List Value} {dv w : Value} (V : Arv Z h a k .long z vs dv) (i : Nat) (hi : j.toNatClampNeg = i) (hj : ¬ j < 0 ∧ j < z) (hlen : i < vs.length) (hw : (.long x) = w) (hvs : vs.set i w = vs') (hd : decode c.code pc = .ok (.lastore, 1)) (hn : pc + 1 = n)
    (g : ∀ T' h', Stand p l e R s m args below meth c T' (locs ++ [⟨a, j.toNatClampNeg⟩]) cells slots → T'.heap = h' → Wr h h' a j.toNatClampNeg w → Arv Z h' a k .long z vs' dv → Goes p e below s Q K N (T'.setTop (mkF m n Ls rest))) : Goes p e below s Q K N (T.setTop (mkF m pc Ls (.long x :: .int j :: .ref a :: rest))) := by
  subst hn hvs hw
  obtain ⟨cl, A, q1, S, M, H, G⟩ := V
  obtain ⟨T', h', X', e', W, st'⟩ := stJ X hx hZ eT A (j := j) (inb_of S hj) (g := mkF m pc Ls (.long x :: .int j :: .ref a :: rest)) rfl rfl hd
  exact (g T' h' X' e' W (Arv.set A q1 S M H G rfl W i hi hlen)).via st'
theorem o_bastore (X : Stand p l e R s m args below meth c T locs cells slots) (hx : p.tables.exec = Jvm.exec) (hZ : Z.Warmed39 s.vm) (eT : T.heap = h) {a : Addr} {k : ClassId} {z j : Int32} {x : Int32} {vs vs' : List Value} {dv w : Value} (V : Arv Z h a k .byte z vs dv) (i : Nat) (hi : j.toNatClampNeg = i) (hj : ¬ j < 0 ∧ j < z) (hlen : i < vs.length) (hw : (.int (nar .byte x)) = w) (hvs : vs.set i w = vs') (hd : decode c.code pc = .ok (.bastore, 1)) (hn : pc + 1 = n)
    (g : ∀ T' h', Stand p l e R s m args below meth c T' (locs ++ [⟨a, j.toNatClampNeg⟩]) cells slots → T'.heap = h' → Wr h h' a j.toNatClampNeg w → Arv Z h' a k .byte z vs' dv → Goes p e below s Q K N (T'.setTop (mkF m n Ls rest))) : Goes p e below s Q K N (T.setTop (mkF m pc Ls (.int x :: .int j :: .ref a :: rest))) := by
  subst hn hvs hw
  obtain ⟨cl, A, q1, S, M, H, G⟩ := V
  obtain ⟨T', h', X', e', W, st'⟩ := stB X hx hZ eT A (j := j) (inb_of S hj) (g := mkF m pc Ls (.int x :: .int j :: .ref a :: rest)) rfl rfl hd
  exact (g T' h' X' e' W (Arv.set A q1 S M H G (fits_nar_byte x) W i hi hlen)).via st'
theorem o_bastoreZ (X : Stand p l e R s m args below meth c T locs cells slots) (hx : p.tables.exec = Jvm.exec) (hZ : Z.Warmed39 s.vm) (eT : T.heap = h) {a : Addr} {k : ClassId} {z j : Int32} {x : Int32} {vs vs' : List Value} {dv w : Value} (V : Arv Z h a k .boolean z vs dv) (i : Nat) (hi : j.toNatClampNeg = i) (hj : ¬ j < 0 ∧ j < z) (hlen : i < vs.length) (hw : (.int (nar .boolean x)) = w) (hvs : vs.set i w = vs') (hd : decode c.code pc = .ok (.bastore, 1)) (hn : pc + 1 = n)
    (g : ∀ T' h', Stand p l e R s m args below meth c T' (locs ++ [⟨a, j.toNatClampNeg⟩]) cells slots → T'.heap = h' → Wr h h' a j.toNatClampNeg w → Arv Z h' a k .boolean z vs' dv → Goes p e below s Q K N (T'.setTop (mkF m n Ls rest))) : Goes p e below s Q K N (T.setTop (mkF m pc Ls (.int x :: .int j :: .ref a :: rest))) := by
  subst hn hvs hw
  obtain ⟨cl, A, q1, S, M, H, G⟩ := V
  obtain ⟨T', h', X', e', W, st'⟩ := stZ X hx hZ eT A (j := j) (inb_of S hj) (g := mkF m pc Ls (.int x :: .int j :: .ref a :: rest)) rfl rfl hd
  exact (g T' h' X' e' W (Arv.set A q1 S M H G (fits_nar_bool x) W i hi hlen)).via st'

/-! calls -/
theorem o_initO (X : Stand p l e R s m args below meth c T locs cells slots) (hx : p.tables.exec = Jvm.exec) (hZ : Z.Warmed39 s.vm) {own : String} {idx : Nat} (hown : s.vm.findClass own = some m.cls) (w1 : (Jvm.Cond.methodLink own idx Lib.objectInit).before a0 Z = true) (w2 : (Jvm.Cond.instanceMethod Lib.objectInit).before a0 Z = true) (w3 : (Jvm.Cond.code Lib.objectInit ⟨#[0xb1]⟩ 1 none).before a0 Z = true) (eT : T.heap = h) (hsize : Ls.size = c.maxLocals) {a : Addr} (hd : decode c.code pc = .ok (.invokespecial idx, 3)) (hf : 1 ≤ R.frames) (W : Nat) (hW : (rest.map fun v => v.category).sum ≤ W) (hl : W + 12 ≤ R.locals) (hn : pc + 3 = n)
    (k : ∀ T', Stand p l e R s m args below meth c T' locs cells slots → T'.heap = h → Goes p e below s Q K N (T'.setTop (mkF m n Ls rest))) : Goes p e below s Q K N (T.setTop (mkF m pc Ls (.ref a :: rest))) := by
  subst hn
  obtain ⟨T', X', e', st'⟩ := initO X hx hZ hown w1 w2 w3 eT (g := mkF m pc Ls (.ref a :: rest)) rfl hsize rfl hd hf (W := W) (by show 2 * 0 + _ ≤ _; omega) hl
  exact (k T' X' e').via st'
theorem o_callS (X : Stand p l e R s m args below meth c T locs cells slots) (hx : p.tables.exec = Jvm.exec) (hZ : Z.Warmed39 s.vm) {own : String} {index : Nat} {y : MethodName} {bytes : ByteArray} {maxL : Nat} {ret : Option FieldType} {rm : Room} (hown : s.vm.findClass own = some m.cls) (w1 : (Jvm.Cond.methodLink own index y).before a0 Z = true) (w2 : (Jvm.Cond.static y).before a0 Z = true) (w3 : (Jvm.Cond.initialized y.cls).before a0 Z = true) (w4 : (Jvm.Cond.code y bytes maxL ret).before a0 Z = true) (hy : y.cls ≠ "java/lang/invoke/MethodHandle" ∧ y.cls ≠ "java/lang/invoke/VarHandle") (eT : T.heap = h)
    {argsL rest : List Value} {Q' : Option Value → Heap → List Loc → Prop} (hM : Does l Z y bytes maxL ret [] rm argsL.toArray h Q') (W : Nat) (hf : rm.frames + 1 ≤ R.frames) (hl : W + (maxL + 11) + rm.locals ≤ R.locals) (hc : cells + rm.cells ≤ R.cells) (hs : slots + rm.slots ≤ R.slots) (hsize : Ls.size = c.maxLocals) (hlen : ∀ sig, parseMethodDescriptor y.desc = some sig → argsL.length = sig.parameters.length) (hst : st = argsL.reverse ++ rest) (hW : (rest.map fun v => v.category).sum ≤ W) (hd : decode c.code pc = .ok (.invokestatic index, 3)) (hn : pc + 3 = n)
    (k : ∀ v T' L', Stand p l e R s m args below meth c T' (locs ++ L') (cells + rm.cells) (slots + rm.slots) → Q' v T'.heap L' → Goes p e below s Q K N (T'.setTop (mkF m n Ls (v.toList ++ rest)))) : Goes p e below s Q K N (T.setTop (mkF m pc Ls st)) := by
  subst hn
  obtain ⟨v, _, ⟨T', L, kk, nn⟩, -, X', ⟨Lc, hQ, l', y', z'⟩, st'⟩ := Jvm.LawKit.callS X hx (y := y) hown (mvT hZ w1) (mvT hZ w2) (mvT hZ w3) (mvT hZ w4) hy (backOf (W := W) hM hZ w4 w3 hf hl) (g := mkF m pc Ls st) rfl hsize (argsL := argsL) (rest := rest) hlen hst (by show 2 * 0 + _ ≤ _; omega) hd (fun _ _ => ⟨rfl, eT, hc, hs⟩)
  dsimp only [Pt.U, Pt.locs, Pt.cells, Pt.slots] at X' l' y' z' st' hQ
  subst l' y' z'
  exact (k v T' Lc X' hQ).via st'
theorem o_callN (X : Stand p l e R s m args below meth c T locs cells slots) (hx : p.tables.exec = Jvm.exec) (hZ : Z.Warmed39 s.vm) {own : String} {index : Nat} {y : MethodName} {bytes : ByteArray} {maxL : Nat} {rm : Room} (hy1 : y.name = "<init>") (hown : s.vm.findClass own = some m.cls) (w1 : (Jvm.Cond.methodLink own index y).before a0 Z = true) (w2 : (Jvm.Cond.instanceMethod y).before a0 Z = true) (w3 : (Jvm.Cond.initialized y.cls).before a0 Z = true) (w4 : (Jvm.Cond.code y bytes maxL none).before a0 Z = true) (hy : y.cls ≠ "java/lang/invoke/MethodHandle" ∧ y.cls ≠ "java/lang/invoke/VarHandle") (eT : T.heap = h)
    {a : Addr} {argsL rest : List Value} {Q' : Option Value → Heap → List Loc → Prop} (hM : Does l Z y bytes maxL none [] rm (.ref a :: argsL).toArray h Q') (W : Nat) (hf : rm.frames + 1 ≤ R.frames) (hl : W + (maxL + 11) + rm.locals ≤ R.locals) (hc : cells + rm.cells ≤ R.cells) (hs : slots + rm.slots ≤ R.slots) (hsize : Ls.size = c.maxLocals) (hlen : ∀ sig, parseMethodDescriptor y.desc = some sig → argsL.length = sig.parameters.length) (hst : st = argsL.reverse ++ .ref a :: rest) (hW : (rest.map fun v => v.category).sum ≤ W) (hd : decode c.code pc = .ok (.invokespecial index, 3)) (hn : pc + 3 = n)
    (k : ∀ v T' L', Stand p l e R s m args below meth c T' (locs ++ L') (cells + rm.cells) (slots + rm.slots) → Q' v T'.heap L' → Goes p e below s Q K N (T'.setTop (mkF m n Ls (v.toList ++ rest)))) : Goes p e below s Q K N (T.setTop (mkF m pc Ls st)) := by
  subst hn
  obtain ⟨v, _, ⟨T', L, kk, nn⟩, -, X', ⟨Lc, hQ, l', y', z'⟩, st'⟩ := X.specialBack hx (y := y) hy1 hown (mvT hZ w1) (mvT hZ w2) (mvT hZ w4) hy (backOf (W := W) hM hZ w4 w3 hf hl) (g := mkF m pc Ls st) rfl hsize (Steps.refl _) (a := a) (argsL := argsL) (rest := rest) hlen hst (by show 2 * 0 + _ ≤ _; omega) hd (fun _ _ => ⟨rfl, eT, hc, hs⟩)
  dsimp only [Pt.U, Pt.locs, Pt.cells, Pt.slots] at X' l' y' z' st' hQ
  subst l' y' z'
  exact (k v T' Lc X' hQ).via fun t q => st'.trans q
theorem o_callV (X : Stand p l e R s m args below meth c T locs cells slots) (hx : p.tables.exec = Jvm.exec) (hZ : Z.Warmed39 s.vm) {own C : String} {index : Nat} {y : MethodName} {bytes : ByteArray} {maxL : Nat} {ret : Option FieldType} {rm : Room} (hown : s.vm.findClass own = some m.cls) (w1 : (Jvm.Cond.methodLink own index y).before a0 Z = true) (w2 : (Jvm.Cond.declares y).before a0 Z = true) (w5 : (Jvm.Cond.selects C y y).before a0 Z = true) (w6 : (Jvm.Cond.instanceMethod y).before a0 Z = true) (w3 : (Jvm.Cond.initialized y.cls).before a0 Z = true) (w4 : (Jvm.Cond.code y bytes maxL ret).before a0 Z = true) (hy : y.cls ≠ "java/lang/invoke/MethodHandle" ∧ y.cls ≠ "java/lang/invoke/VarHandle") (eT : T.heap = h)
    {a : Addr} (E : Exa Z h a C) {argsL rest : List Value} {Q' : Option Value → Heap → List Loc → Prop} (hM : Does l Z y bytes maxL ret [] rm (.ref a :: argsL).toArray h Q') (W : Nat) (hf : rm.frames + 1 ≤ R.frames) (hl : W + (maxL + 11) + rm.locals ≤ R.locals) (hc : cells + rm.cells ≤ R.cells) (hs : slots + rm.slots ≤ R.slots) (hsize : Ls.size = c.maxLocals) (hlen : ∀ sig, parseMethodDescriptor y.desc = some sig → argsL.length = sig.parameters.length) (hst : st = argsL.reverse ++ .ref a :: rest) (hW : (rest.map fun v => v.category).sum ≤ W) (hd : decode c.code pc = .ok (.invokevirtual index, 3)) (hn : pc + 3 = n)
    (k : ∀ v T' L', Stand p l e R s m args below meth c T' (locs ++ L') (cells + rm.cells) (slots + rm.slots) → Q' v T'.heap L' → Goes p e below s Q K N (T'.setTop (mkF m n Ls (v.toList ++ rest)))) : Goes p e below s Q K N (T.setTop (mkF m pc Ls st)) := by
  subst hn
  obtain ⟨cq, kq, qa, qb, qc⟩ := isOf hZ eT E
  obtain ⟨v, _, ⟨T', L, kk, nn⟩, -, X', ⟨Lc, hQ, l', y', z'⟩, st'⟩ := X.virtualBack hx (y := y) (z := y) hown (mvT hZ w1) (mvT hZ w2) (notFace_of_selects (args := #[]) (mvT hZ w5)) (mvT hZ w5) (mvT hZ w6) hy (backOf (W := W) hM hZ w4 w3 hf hl) qa qc (g := mkF m pc Ls st) rfl hsize (Steps.refl _) (argsL := argsL) (rest := rest) hlen hst (by show 2 * 0 + _ ≤ _; omega) hd (fun _ _ => ⟨rfl, eT, hc, hs⟩)
  dsimp only [Pt.U, Pt.locs, Pt.cells, Pt.slots] at X' l' y' z' st' hQ
  subst l' y' z'
  exact (k v T' Lc X' hQ).via fun t q => st'.trans q
/-- a private method is the one that is selected -/
theorem o_selpriv {y : MethodName} {kk : Nat} (hy : y.cls ≠ "java/lang/invoke/MethodHandle" ∧ y.cls ≠ "java/lang/invoke/VarHandle") (hins : (Jvm.Cond.instantiable y.cls kk).before args s = true) (hpriv : (Jvm.Cond.privateMethod y).before args s = true) (hinst : (Jvm.Cond.instanceMethod y).before args s = true) : (Jvm.Cond.selects y.cls y y).before args s = true := by
  obtain ⟨c, k, hc, hk, -, hniab, -, -⟩ := Cond.instantiable_spec hins
  have hni : k.isInterface = false := (Bool.or_eq_false_iff.mp hniab).1
  obtain ⟨mk, methM, hnamed, hmethM, -, -⟩ := Cond.instanceMethod_spec hinst
  have hfound : s.methodFound? y.cls y.name y.desc = some mk := State.methodFound?_of_named hnamed hy
  have hcls : mk.cls = c := Option.some.inj ((findClass_of_methodNamed hnamed).symm.trans hc)
  have hsel : selectMethod {} s.vm c mk = .method mk := selectMethod_private hmethM (Cond.privateMethod_at hpriv mk methM hnamed hmethM)
  simp only [Cond.before, Cond.holds, Cond.value, hc, hfound, hnamed, hsel, hcls, hk]
  simp; exact hni
theorem o_callP (X : Stand p l e R s m args below meth c T locs cells slots) (hx : p.tables.exec = Jvm.exec) (hZ : Z.Warmed39 s.vm) {own C : String} {index kk : Nat} {y : MethodName} {bytes : ByteArray} {maxL : Nat} {ret : Option FieldType} {rm : Room} (hown : s.vm.findClass own = some m.cls) (w1 : (Jvm.Cond.methodLink own index y).before a0 Z = true) (w6 : (Jvm.Cond.instanceMethod y).before a0 Z = true) (w5 : (Jvm.Cond.privateMethod y).before a0 Z = true) (wi : (Jvm.Cond.instantiable y.cls kk).before a0 Z = true) (w3 : (Jvm.Cond.initialized y.cls).before a0 Z = true) (w4 : (Jvm.Cond.code y bytes maxL ret).before a0 Z = true) (hy : y.cls ≠ "java/lang/invoke/MethodHandle" ∧ y.cls ≠ "java/lang/invoke/VarHandle") (eT : T.heap = h)
    {a : Addr} (E : Exa Z h a C) {argsL rest : List Value} {Q' : Option Value → Heap → List Loc → Prop} (hM : Does l Z y bytes maxL ret [] rm (.ref a :: argsL).toArray h Q') (W : Nat) (hf : rm.frames + 1 ≤ R.frames) (hl : W + (maxL + 11) + rm.locals ≤ R.locals) (hc : cells + rm.cells ≤ R.cells) (hs : slots + rm.slots ≤ R.slots) (hsize : Ls.size = c.maxLocals) (hlen : ∀ sig, parseMethodDescriptor y.desc = some sig → argsL.length = sig.parameters.length) (hst : st = argsL.reverse ++ .ref a :: rest) (hW : (rest.map fun v => v.category).sum ≤ W) (hd : decode c.code pc = .ok (.invokevirtual index, 3)) (hn : pc + 3 = n)
    (k : ∀ v T' L', Stand p l e R s m args below meth c T' (locs ++ L') (cells + rm.cells) (slots + rm.slots) → Q' v T'.heap L' → Goes p e below s Q K N (T'.setTop (mkF m n Ls (v.toList ++ rest)))) : Goes p e below s Q K N (T.setTop (mkF m pc Ls st)) := by
  subst hn
  obtain ⟨cl, hcl, hob⟩ := E.cell
  obtain ⟨v, _, ⟨T', L, kk, nn⟩, -, X', ⟨Lc, hQ, l', y', z'⟩, st'⟩ := X.privateBack hx (y := y) hown (mvT hZ w1) (mvT hZ w6) (o_selpriv hy (mvT hZ wi) (mvP hZ w5) (mvT hZ w6)) (Cond.privateMethod_at (mvP hZ w5 (args := #[]))) (mvT hZ w4) hy (backOf (W := W) hM hZ w4 w3 hf hl) (g := mkF m pc Ls st) rfl hsize (Steps.refl _) (a := a) (by rw [eT]; exact hcl) hob (argsL := argsL) (rest := rest) hlen hst (by show 2 * 0 + _ ≤ _; omega) hd (fun _ _ => ⟨rfl, eT, hc, hs⟩)
  dsimp only [Pt.U, Pt.locs, Pt.cells, Pt.slots] at X' l' y' z' st' hQ
  subst l' y' z'
  exact (k v T' Lc X' hQ).via fun t q => st'.trans q
/-! returns -/
theorem o_retW (X : Stand p l e R s m args below meth c T locs cells slots) (hx : p.tables.exec = Jvm.exec) {t : FieldType} {w : Value} {i : Instr} (hret : meth.sig.returnType = some t) (hlk : meth.locks = false) (hnw : narrow t w = w)
    (hi : (i = .ireturn ∧ (t = .int ∨ t = .boolean ∨ t = .byte ∨ t = .char ∨ t = .short) ∧ ∃ z, w = .int z) ∨ (i = .lreturn ∧ t = .long ∧ ∃ z, w = .long z) ∨ (i = .dreturn ∧ t = .double ∧ ∃ z, w = .double z) ∨ (i = .freturn ∧ t = .float ∧ ∃ z, w = .float z) ∨ (i = .areturn ∧ t.isReference = true ∧ w.isRef = true))
    (hd : decode c.code pc = .ok (i, 1)) (hc : cells ≤ K) (hs : slots ≤ N) (eT : T.heap = h) (hQ : Q (some w) h locs) : Goes p e below s Q K N (T.setTop (mkF m pc Ls (w :: rest))) := by
  subst eT
  obtain ⟨fs, hr, hrun, hended, hW, hsame⟩ := X.leave (v := some w) (fun q => by rw [hret] at q; cases q) hlk
  exact ⟨_, _, retOut X hx hret hnw hi hd hr, hrun, hended, _, _, rfl, hQ, ⟨_, rfl⟩, hW, hsame.mono hc hs⟩
theorem o_ireturn (X : Stand p l e R s m args below meth c T locs cells slots) (hx : p.tables.exec = Jvm.exec) {x : Int32} (hret : meth.sig.returnType = some .int) (hlk : meth.locks = false) (hd : decode c.code pc = .ok (.ireturn, 1)) (hc : cells ≤ K) (hs : slots ≤ N) (eT : T.heap = h) (hQ : Q (some (.int x)) h locs) : Goes p e below s Q K N (T.setTop (mkF m pc Ls (.int x :: rest))) := o_retW X hx hret hlk rfl (Or.inl ⟨rfl, Or.inl rfl, x, rfl⟩) hd hc hs eT hQ
theorem o_lreturn (X : Stand p l e R s m args below meth c T locs cells slots) (hx : p.tables.exec = Jvm.exec) {x : Int64} (hret : meth.sig.returnType = some .long) (hlk : meth.locks = false) (hd : decode c.code pc = .ok (.lreturn, 1)) (hc : cells ≤ K) (hs : slots ≤ N) (eT : T.heap = h) (hQ : Q (some (.long x)) h locs) : Goes p e below s Q K N (T.setTop (mkF m pc Ls (.long x :: rest))) := o_retW X hx hret hlk rfl (Or.inr (Or.inl ⟨rfl, rfl, x, rfl⟩)) hd hc hs eT hQ
theorem o_areturn (X : Stand p l e R s m args below meth c T locs cells slots) (hx : p.tables.exec = Jvm.exec) {t : FieldType} {w : Value} (hret : meth.sig.returnType = some t) (hlk : meth.locks = false) (ht : t.isReference = true) (hw : w.isRef = true) (hd : decode c.code pc = .ok (.areturn, 1)) (hc : cells ≤ K) (hs : slots ≤ N) (eT : T.heap = h) (hQ : Q (some w) h locs) : Goes p e below s Q K N (T.setTop (mkF m pc Ls (w :: rest))) := o_retW X hx hret hlk (by cases t <;> first | rfl | cases ht) (Or.inr (Or.inr (Or.inr (Or.inr ⟨rfl, ht, hw⟩)))) hd hc hs eT hQ
/-- a boolean, byte, char or short: narrowed -/
theorem o_nreturn (X : Stand p l e R s m args below meth c T locs cells slots) (hx : p.tables.exec = Jvm.exec) {t : FieldType} {x : Int32} (hret : meth.sig.returnType = some t) (hlk : meth.locks = false) (ht : t = .boolean ∨ t = .byte ∨ t = .char ∨ t = .short) (hd : decode c.code pc = .ok (.ireturn, 1)) (hc : cells ≤ K) (hs : slots ≤ N) (eT : T.heap = h) (hQ : Q (some (.int (nar t x))) h locs) : Goes p e below s Q K N (T.setTop (mkF m pc Ls (.int x :: rest))) := by
  subst eT
  obtain ⟨fs, hr, hrun, hended, hW, hsame⟩ := X.leave (v := some (.int (nar t x))) (fun q => by rw [hret] at q; cases q) hlk
  exact ⟨_, _, retN X hx hret ht hd hr, hrun, hended, _, _, rfl, hQ, ⟨_, rfl⟩, hW, hsame.mono hc hs⟩
theorem o_return (X : Stand p l e R s m args below meth c T locs cells slots) (hx : p.tables.exec = Jvm.exec) (hret : meth.sig.returnType = none) (hlk : meth.locks = false) (hd : decode c.code pc = .ok (.return_, 1)) (hc : cells ≤ K) (hs : slots ≤ N) (eT : T.heap = h) (hQ : Q none h locs) : Goes p e below s Q K N (T.setTop (mkF m pc Ls [])) := by
  subst eT
  obtain ⟨fs, hr, hrun, hended, hW, hsame⟩ := X.leave (v := none) (fun _ => rfl) hlk
  exact ⟨_, _, X.returnOut hx hret hd hr, hrun, hended, _, _, rfl, hQ, ⟨_, rfl⟩, hW, hsame.mono hc hs⟩
/-- what a call that writes nothing promises -/
def Pur (h0 : Heap) (w : Value) (v : Option Value) (h : Heap) (L : List Loc) : Prop := v = some w ∧ h = h0 ∧ L = []
end Layer

theorem o_nz1 : nar .boolean (1 : Int32) = 1 := by decide
theorem o_nz0 : nar .boolean (0 : Int32) = 0 := by decide
theorem o_nar8 (x : Int32) : nar .byte x.toInt8.toInt32 = x.toInt8.toInt32 := by simp [nar]

theorem o_mod3 (x : Int32) : (x &&& 2147483647) % 3 = 0 ∨ (x &&& 2147483647) % 3 = 1 ∨ (x &&& 2147483647) % 3 = 2 := by
  have a := c_mask x 2147483647 31 (by decide) (by decide)
  have b : 0 ≤ x.toInt % (2 ^ 31 : Nat) := Int.emod_nonneg _ (by decide)
  have d := (c_irem (x &&& 2147483647) 3 3 rfl).1 (by rw [a]; exact b)
  have e0 : (0 : Int32).toInt = 0 := rfl
  have e1 : (1 : Int32).toInt = 1 := rfl
  have e2 : (2 : Int32).toInt = 2 := rfl
  simp only [← Int32.toInt_inj]
  omega

theorem o_sta_keep {Z : State} {h h' : Heap} {C n d : String} {v : Value} {ws : List Addr} (F : Sta Z h C n d v) (K : Keep h h' ws) (q : ∀ a ∈ ws, ∀ cl : Cell, h[a]? = some cl → cl.vm.isStatics = false) : Sta Z h' C n d v := by
  obtain ⟨cf, i, k, f, st, cell, h1, h2, h3, h4, h5, h6, h7⟩ := F
  refine ⟨cf, i, k, f, st, cell, h1, h2, h3, h4, K.2.1 st cell h5 (fun z => ?_), h6, h7⟩
  have := q st z cell h5
  rw [h6] at this; cases this
theorem o_exa_ns {Z : State} {h : Heap} {a : Addr} {C : String} (E : Exa Z h a C) : ∀ cl : Cell, h[a]? = some cl → cl.vm.isStatics = false := fun cl hc => by
  obtain ⟨c1, k, h1, -, -, h4, -⟩ := E
  cases h1.symm.trans hc; exact h4
theorem o_arv_ns {Z : State} {h : Heap} {a : Addr} {k : ClassId} {ty : FieldType} {z : Int32} {vs : List Value} {dv : Value} (V : Arv Z h a k ty z vs dv) : ∀ cl : Cell, h[a]? = some cl → cl.vm.isStatics = false := fun cl hc => by
  obtain ⟨c1, A, -⟩ := V
  cases A.1.symm.trans hc; exact A.plain

def o_dg (j : Int32) : Int32 := if j < 10 then 48 + j else 55 + j
def o_hex (d : Int32) : Int32 := if d < 10 then ((48 : Int32) + d).toInt8.toInt32 else ((65 : Int32) + (d - 10)).toInt8.toInt32
def o_ex (i off n b0 b1 f : Int32) : Int32 := if i - off < 0 then f else if i - off < 2 * n then o_hex (if (i - off) % 2 = 0 then ((if i - off < 2 then b0 else b1) &&& 255) / 16 else ((if i - off < 2 then b0 else b1) &&& 255) % 16) else f
theorem o_15 (x : Int32) : ∃ k : Fin 16, x &&& 15 = Int32.ofNat k := by
  have h := c_mask x 15 4 (by decide) (by decide)
  refine ⟨⟨(x &&& 15).toInt.toNat, by omega⟩, ?_⟩
  apply Int32.toInt_inj.mp
  show (x &&& 15).toInt = (Int32.ofNat (x &&& 15).toInt.toNat).toInt
  rw [Int32.toInt_ofNat_of_lt (by omega)]
  omega
theorem o_get (x : Int32) : (¬ (x &&& 15) < 0 ∧ (x &&& 15) < 16) ∧ ([(.int (48 : Int32)), (.int (49 : Int32)), (.int (50 : Int32)), (.int (51 : Int32)), (.int (52 : Int32)), (.int (53 : Int32)), (.int (54 : Int32)), (.int (55 : Int32)), (.int (56 : Int32)), (.int (57 : Int32)), (.int (65 : Int32)), (.int (66 : Int32)), (.int (67 : Int32)), (.int (68 : Int32)), (.int (69 : Int32)), (.int (70 : Int32))] : List Value).getD (x &&& 15).toNatClampNeg (.int 0) = .int (o_dg (x &&& 15)) := by
  obtain ⟨k, hk⟩ := o_15 x
  rw [hk]
  clear hk
  revert k
  decide +kernel
theorem o_fin : ∀ k : Fin 16, nar .byte (o_dg (Int32.ofNat k)) = o_hex (Int32.ofNat k) := by decide +kernel
theorem o_lo (x : Int32) : nar .byte (o_dg (x &&& 15)) = o_hex ((x &&& 255) % 16) := by
  have e : (x &&& 255) % 16 = x &&& 15 := by
    apply Int32.toInt_inj.mp
    have a := c_mask x 255 8 (by decide) (by decide)
    have b := c_mask x 15 4 (by decide) (by decide)
    have d := (c_irem (x &&& 255) 16 16 rfl).1 (by omega)
    omega
  rw [e]
  obtain ⟨k, hk⟩ := o_15 x
  rw [hk]
  exact o_fin k
theorem o_hi (x : Int32) : nar .byte (o_dg ((x >>> (4 : Int32)) &&& 15)) = o_hex ((x &&& 255) / 16) := by
  have e : (x &&& 255) / 16 = (x >>> (4 : Int32)) &&& 15 := by
    apply Int32.toInt_inj.mp
    have a := c_mask x 255 8 (by decide) (by decide)
    have b := c_mask (x >>> (4 : Int32)) 15 4 (by decide) (by decide)
    have g : (x >>> (4 : Int32)).toInt = x.toInt / (2 ^ 4 : Nat) := c_ishr x 4 4 (by decide)
    have d := (c_idiv (x &&& 255) 16 16 rfl (by decide)).1 (by omega)
    omega
  rw [e]
  obtain ⟨k, hk⟩ := o_15 (x >>> (4 : Int32))
  rw [hk]
  exact o_fin k
theorem o_mod7 (x : Int32) : (x &&& 2147483647) % 7 = 0 ∨ (x &&& 2147483647) % 7 = 1 ∨ (x &&& 2147483647) % 7 = 2 ∨ (x &&& 2147483647) % 7 = 3 ∨ (x &&& 2147483647) % 7 = 4 ∨ (x &&& 2147483647) % 7 = 5 ∨ (x &&& 2147483647) % 7 = 6 := by
  have a := c_mask x 2147483647 31 (by decide) (by decide)
  have d := (c_irem (x &&& 2147483647) 7 7 rfl).1 (by omega)
  have e0 : (0 : Int32).toInt = 0 := rfl
  have e1 : (1 : Int32).toInt = 1 := rfl
  have e2 : (2 : Int32).toInt = 2 := rfl
  have e3 : (3 : Int32).toInt = 3 := rfl
  have e4 : (4 : Int32).toInt = 4 := rfl
  have e5 : (5 : Int32).toInt = 5 := rfl
  have e6 : (6 : Int32).toInt = 6 := rfl
  simp only [← Int32.toInt_inj]
  omega
theorem o_mod5 (x : Int32) : (x &&& 2147483647) % 5 = 0 ∨ (x &&& 2147483647) % 5 = 1 ∨ (x &&& 2147483647) % 5 = 2 ∨ (x &&& 2147483647) % 5 = 3 ∨ (x &&& 2147483647) % 5 = 4 := by
  have a := c_mask x 2147483647 31 (by decide) (by decide)
  have d := (c_irem (x &&& 2147483647) 5 5 rfl).1 (by omega)
  have e0 : (0 : Int32).toInt = 0 := rfl
  have e1 : (1 : Int32).toInt = 1 := rfl
  have e2 : (2 : Int32).toInt = 2 := rfl
  have e3 : (3 : Int32).toInt = 3 := rfl
  have e4 : (4 : Int32).toInt = 4 := rfl
  have e5 : (5 : Int32).toInt = 5 := rfl
  have e6 : (6 : Int32).toInt = 6 := rfl
  simp only [← Int32.toInt_inj]
  omega
theorem o_len {args : Array Value} {Z : State} {t : Term} {a : Addr} {cl : Cell} {ty : FieldType} {n : Int32} (ht : t.eval args Z none [] Z = some (.ref a)) (A : Arr Z Z.heap a cl ty) (h : (Jvm.Cond.eq (Term.length t) (Term.int n)).value args Z none Z [] = some true) : cl.slots.size < 2 ^ 31 ∧ cl.slots.size.toInt32 = n := by
  have hA := A.fin (Vm.Alike.refl Z.vm)
  by_cases q : cl.slots.size < 2 ^ 31
  · refine ⟨q, ?_⟩
    have e := len_f (args := args) (first := Z) (o := none) (idx := []) ht hA q
    obtain ⟨x, y, e1, e2, k1, k2⟩ := cmp_v (Or.inl h)
    have q : (Jvm.Cond.eq (Term.length t) (Term.int n)).value args Z none Z [] = some (decide (cl.slots.size.toInt32 = n)) := by simp [Cond.value, e, Term.int_eval n]
    exact gotT q h
  · obtain ⟨x, y, e1, e2, k1, k2⟩ := cmp_v (Or.inl h)
    simp [Term.eval, ht, hA, q] at e1
/-- the table of digits, out of the case's words -/
theorem o_digit {args : Array Value} {Z : State} {t : Term} {a : Addr} {cl : Cell} (hf : Fit Z) (ht : ∀ idx, t.eval args Z none idx Z = some (.ref a)) (A : Arr Z Z.heap a cl .byte) (hs : cl.slots.size = 16)
    (h1 : (Jvm.Cond.all t (Jvm.Cond.or (Jvm.Cond.le (Term.int 10) (Term.index 0)) (Jvm.Cond.eq (Term.op1 Unary.i2l (Term.elem t (Term.index 0))) (Term.op2 Binary.ladd (Term.op1 Unary.i2l (Term.index 0)) (Term.long 48))))).value args Z none Z [] = some true)
    (h2 : (Jvm.Cond.all t (Jvm.Cond.or (Jvm.Cond.lt (Term.index 0) (Term.int 10)) (Jvm.Cond.eq (Term.op1 Unary.i2l (Term.elem t (Term.index 0))) (Term.op2 Binary.ladd (Term.op1 Unary.i2l (Term.index 0)) (Term.long 55))))).value args Z none Z [] = some true)
    (j : Int32) (hj : ¬ j < 0) (hk : j.toNatClampNeg < 16) : cl.slots[j.toNatClampNeg]? = some (.int (o_dg j)) := by
  have hA := A.fin (Vm.Alike.refl Z.vm)
  obtain ⟨v, e1, e2⟩ := elem_fit hf A (j := j) (fun q => q.elim hj (fun r => by omega))
  obtain ⟨x, rfl⟩ := fit_I e2 (by simp)
  have ix : (Term.index 0).eval args Z none [j.toNatClampNeg] Z = some (.int j) := idx_at hj
  have el : (Term.elem t (Term.index 0)).eval args Z none [j.toNatClampNeg] Z = some (.int x) := (elem_f (ht _) ix hA hj).trans e1
  have lx := i2l_at el
  have lj := i2l_at ix
  have b1 : (Term.op2 Binary.ladd (Term.op1 Unary.i2l (Term.index 0)) (Term.long 48)).eval args Z none [j.toNatClampNeg] Z = some (.long (j.toInt64 + 48)) := (op2_f lj (show (Term.long 48).eval args Z none [j.toNatClampNeg] Z = some (.long 48) from by simp [Term.eval])).trans rfl
  have b2 : (Term.op2 Binary.ladd (Term.op1 Unary.i2l (Term.index 0)) (Term.long 55)).eval args Z none [j.toNatClampNeg] Z = some (.long (j.toInt64 + 55)) := (op2_f lj (show (Term.long 55).eval args Z none [j.toNatClampNeg] Z = some (.long 55) from by simp [Term.eval])).trans rfl
  have u1 := or_e2 (Cond.le_ints (Term.int_eval 10) ix) (eq_L lx b1) (Cond.all_elim (ht []) hA h1 _ (by omega))
  have u2 := or_e2 (Cond.lt_ints ix (Term.int_eval 10)) (eq_L lx b2) (Cond.all_elim (ht []) hA h2 _ (by omega))
  rw [e1]
  have hj0 : 0 ≤ j.toInt := by
    have := hj; rw [Int32.lt_iff_toInt_lt, show (0 : Int32).toInt = 0 from rfl] at this; omega
  have hj1 : j.toInt < 16 := by simp only [Int32.toNatClampNeg] at hk; omega
  have key : x = o_dg j := by
    unfold o_dg
    by_cases q : j < 10
    · rw [if_pos q]
      have u := u1.resolve_left (fun r => absurd (Int32.lt_of_lt_of_le q r) (Int32.lt_irrefl))
      have u' := congrArg Int64.toInt u
      have a := c_ladd j.toInt64 48
      have b := c_iadd 48 j
      rw [c_i2l, show (48 : Int64).toInt = 48 from rfl] at a
      rw [c_i2l] at u'
      rw [show (48 : Int32).toInt = 48 from rfl] at b
      apply Int32.toInt_inj.mp
      have r1 := Int32.le_toInt (48 + j); have r2 := Int32.toInt_lt (48 + j)
      have r3 := Int64.le_toInt (j.toInt64 + 48); have r4 := Int64.toInt_lt (j.toInt64 + 48)
      generalize (48 + j).toInt = P at *
      generalize (j.toInt64 + 48).toInt = Q at *
      generalize j.toInt = J at *
      omega
    · rw [if_neg q]
      have u := u2.resolve_left q
      have u' := congrArg Int64.toInt u
      have a := c_ladd j.toInt64 55
      have b := c_iadd 55 j
      rw [c_i2l, show (55 : Int64).toInt = 55 from rfl] at a
      rw [c_i2l] at u'
      rw [show (55 : Int32).toInt = 55 from rfl] at b
      apply Int32.toInt_inj.mp
      have r1 := Int32.le_toInt (55 + j); have r2 := Int32.toInt_lt (55 + j)
      have r3 := Int64.le_toInt (j.toInt64 + 55); have r4 := Int64.toInt_lt (j.toInt64 + 55)
      generalize (55 + j).toInt = P at *
      generalize (j.toInt64 + 55).toInt = Q at *
      generalize j.toInt = J at *
      omega
  rw [key]

theorem d_method_3_code_0 : decode method_3_code 0 = .ok (.iload_n 0, 1) := by decide +kernel
theorem d_method_3_code_1 : decode method_3_code 1 = .ok (.iload_n 1, 1) := by decide +kernel
theorem d_method_3_code_2 : decode method_3_code 2 = .ok (.isub, 1) := by decide +kernel
theorem d_method_3_code_3 : decode method_3_code 3 = .ok (.istore 6, 2) := by decide +kernel
theorem d_method_3_code_5 : decode method_3_code 5 = .ok (.iload 6, 2) := by decide +kernel
theorem d_method_3_code_7 : decode method_3_code 7 = .ok (.ifCond .lt 11, 3) := by decide +kernel
theorem d_method_3_code_18 : decode method_3_code 18 = .ok (.iload 5, 2) := by decide +kernel
theorem d_method_3_code_20 : decode method_3_code 20 = .ok (.ireturn, 1) := by decide +kernel
theorem d_method_3_code_10 : decode method_3_code 10 = .ok (.iload 6, 2) := by decide +kernel
theorem d_method_3_code_12 : decode method_3_code 12 = .ok (.iconst 2, 1) := by decide +kernel
theorem d_method_3_code_13 : decode method_3_code 13 = .ok (.iload_n 2, 1) := by decide +kernel
theorem d_method_3_code_14 : decode method_3_code 14 = .ok (.imul, 1) := by decide +kernel
theorem d_method_3_code_15 : decode method_3_code 15 = .ok (.if_icmp .lt 6, 3) := by decide +kernel
theorem d_method_3_code_21 : decode method_3_code 21 = .ok (.iload 6, 2) := by decide +kernel
theorem d_method_3_code_23 : decode method_3_code 23 = .ok (.iconst 2, 1) := by decide +kernel
theorem d_method_3_code_24 : decode method_3_code 24 = .ok (.if_icmp .ge 7, 3) := by decide +kernel
theorem d_method_3_code_27 : decode method_3_code 27 = .ok (.iload_n 3, 1) := by decide +kernel
theorem d_method_3_code_28 : decode method_3_code 28 = .ok (.goto 5, 3) := by decide +kernel
theorem d_method_3_code_33 : decode method_3_code 33 = .ok (.sipush 255, 3) := by decide +kernel
theorem d_method_3_code_36 : decode method_3_code 36 = .ok (.iand, 1) := by decide +kernel
theorem d_method_3_code_37 : decode method_3_code 37 = .ok (.istore 7, 2) := by decide +kernel
theorem d_method_3_code_39 : decode method_3_code 39 = .ok (.iload 6, 2) := by decide +kernel
theorem d_method_3_code_41 : decode method_3_code 41 = .ok (.iconst 2, 1) := by decide +kernel
theorem d_method_3_code_42 : decode method_3_code 42 = .ok (.irem, 1) := by decide +kernel
theorem d_method_3_code_43 : decode method_3_code 43 = .ok (.ifCond .ne 11, 3) := by decide +kernel
theorem d_method_3_code_46 : decode method_3_code 46 = .ok (.iload 7, 2) := by decide +kernel
theorem d_method_3_code_48 : decode method_3_code 48 = .ok (.bipush 16, 2) := by decide +kernel
theorem d_method_3_code_50 : decode method_3_code 50 = .ok (.idiv, 1) := by decide +kernel
theorem d_method_3_code_51 : decode method_3_code 51 = .ok (.goto 8, 3) := by decide +kernel
theorem d_method_3_code_59 : decode method_3_code 59 = .ok (.istore 8, 2) := by decide +kernel
theorem d_method_3_code_61 : decode method_3_code 61 = .ok (.iload 8, 2) := by decide +kernel
theorem d_method_3_code_63 : decode method_3_code 63 = .ok (.bipush 10, 2) := by decide +kernel
theorem d_method_3_code_65 : decode method_3_code 65 = .ok (.if_icmp .ge 10, 3) := by decide +kernel
theorem d_method_3_code_68 : decode method_3_code 68 = .ok (.bipush 48, 2) := by decide +kernel
theorem d_method_3_code_70 : decode method_3_code 70 = .ok (.iload 8, 2) := by decide +kernel
theorem d_method_3_code_72 : decode method_3_code 72 = .ok (.iadd, 1) := by decide +kernel
theorem d_method_3_code_73 : decode method_3_code 73 = .ok (.i2b, 1) := by decide +kernel
theorem d_method_3_code_74 : decode method_3_code 74 = .ok (.ireturn, 1) := by decide +kernel
theorem d_method_3_code_75 : decode method_3_code 75 = .ok (.bipush 65, 2) := by decide +kernel
theorem d_method_3_code_77 : decode method_3_code 77 = .ok (.iload 8, 2) := by decide +kernel
theorem d_method_3_code_79 : decode method_3_code 79 = .ok (.bipush 10, 2) := by decide +kernel
theorem d_method_3_code_81 : decode method_3_code 81 = .ok (.isub, 1) := by decide +kernel
theorem d_method_3_code_82 : decode method_3_code 82 = .ok (.iadd, 1) := by decide +kernel
theorem d_method_3_code_83 : decode method_3_code 83 = .ok (.i2b, 1) := by decide +kernel
theorem d_method_3_code_84 : decode method_3_code 84 = .ok (.ireturn, 1) := by decide +kernel
theorem d_method_3_code_54 : decode method_3_code 54 = .ok (.iload 7, 2) := by decide +kernel
theorem d_method_3_code_56 : decode method_3_code 56 = .ok (.bipush 16, 2) := by decide +kernel
theorem d_method_3_code_58 : decode method_3_code 58 = .ok (.irem, 1) := by decide +kernel
theorem d_method_3_code_31 : decode method_3_code 31 = .ok (.iload 4, 2) := by decide +kernel
theorem o_ef1 (m : MethodId) (p0 : Int32) (p1 : Int32) (p2 : Int32) (p3 : Int32) (p4 : Int32) (p5 : Int32) : entryFrame m #[(.int p0), (.int p1), (.int p2), (.int p3), (.int p4), (.int p5)] 9 = mkF m 0 #[.val (.int p0), .val (.int p1), .val (.int p2), .val (.int p3), .val (.int p4), .val (.int p5), .unset, .unset, .unset] [] := by first | (simp [entryFrame, mkF, argsToLocals, Value.category]; done) | rfl
theorem o_pn0 : plainName "com/example/vigilant_card/vigilantcard/HexFormatPinLaw" = true := by first | (simp [plainName, overriddenIn]; done) | decide +kernel
set_option maxRecDepth 65536 in
set_option maxHeartbeats 40000000 in
theorem c_expected (l : Launch) (Z : State) (a0 : Array Value) (hw : ∀ d ∈ tables_1, d.before a0 Z = true) (p0 p1 p2 p3 p4 p5 : Int32) (h0 : Heap) (hf : nar .byte p5 = p5) :
    Does l Z (⟨"com/example/vigilant_card/vigilantcard/HexFormatPinLaw", "expected", "(IIIBBB)B"⟩ : MethodName) method_3_code 9 (some .byte) [] ({ frames := 0, cells := 0, slots := 0, locals := 0 } : Room) #[(.int p0), (.int p1), (.int p2), (.int p3), (.int p4), (.int p5)] h0 (Pur h0 (.int (o_ex p0 p1 p2 p3 p4 p5))) := by
  refine Does.of (plainFor_of_name o_pn0) ?_
  intro p e s m below meth c T0 hx hby hml hown hnm hret hlk hZ X0 e0
  have hown : s.vm.findClass "com/example/vigilant_card/vigilantcard/HexFormatPinLaw" = some m.cls := hown
  have hml : c.maxLocals = 9 := hml
  have hret : meth.sig.returnType = some .byte := hret
  refine o_entry (o_ef1 m p0 p1 p2 p3 p4 p5) ?_
  refine o_iloadN X0 hx (hb hby d_method_3_code_0) (v := p0) rfl (n := 1) rfl ?_
  refine o_iloadN X0 hx (hb hby d_method_3_code_1) (v := p1) rfl (n := 2) rfl ?_
  refine o_isub X0 hx (hb hby d_method_3_code_2) (v := (p0 - p1)) rfl (n := 3) rfl ?_
  refine o_istore X0 hx (hb hby d_method_3_code_3) (Ls' := #[.val (.int p0), .val (.int p1), .val (.int p2), .val (.int p3), .val (.int p4), .val (.int p5), .val (.int (p0 - p1)), .unset, .unset]) rfl (n := 5) rfl ?_
  refine o_iload X0 hx (hb hby d_method_3_code_5) (v := (p0 - p1)) rfl (n := 7) rfl ?_
  by_cases hc7 : (p0 - p1) < (0 : Int32)
  · refine o_ifY X0 hx (hb hby d_method_3_code_7) (XT.i0_lt_t hc7) (by decide) (n := 18) (by decide) ?_
    refine o_iload X0 hx (hb hby d_method_3_code_18) (v := p5) rfl (n := 20) rfl ?_
    exact o_nreturn X0 hx hret hlk (t := .byte) (by simp) (hb hby d_method_3_code_20) (by decide) (by decide) e0 ⟨by rw [show nar .byte p5 = p5 from hf]; simp [o_ex, o_hex, hc7], rfl, rfl⟩
  · refine o_ifN X0 hx (hb hby d_method_3_code_7) (XT.i0_lt_f hc7) (n := 10) rfl ?_
    refine o_iload X0 hx (hb hby d_method_3_code_10) (v := (p0 - p1)) rfl (n := 12) rfl ?_
    refine o_iconst X0 hx (hb hby d_method_3_code_12) (v := (2 : Int32)) rfl (n := 13) rfl ?_
    refine o_iloadN X0 hx (hb hby d_method_3_code_13) (v := p2) rfl (n := 14) rfl ?_
    refine o_imul X0 hx (hb hby d_method_3_code_14) (v := ((2 : Int32) * p2)) rfl (n := 15) rfl ?_
    by_cases hc15 : (p0 - p1) < ((2 : Int32) * p2)
    · refine o_icmpY X0 hx (hb hby d_method_3_code_15) (XT.ii_lt_t hc15) (by decide) (n := 21) (by decide) ?_
      refine o_iload X0 hx (hb hby d_method_3_code_21) (v := (p0 - p1)) rfl (n := 23) rfl ?_
      refine o_iconst X0 hx (hb hby d_method_3_code_23) (v := (2 : Int32)) rfl (n := 24) rfl ?_
      by_cases hc24 : (p0 - p1) < (2 : Int32)
      · refine o_icmpN X0 hx (hb hby d_method_3_code_24) (XT.ii_ge_f hc24) (n := 27) rfl ?_
        refine o_iloadN X0 hx (hb hby d_method_3_code_27) (v := p3) rfl (n := 28) rfl ?_
        refine o_goto X0 hx (hb hby d_method_3_code_28) (by decide) (n := 33) (by decide) ?_
        refine o_sipush X0 hx (hb hby d_method_3_code_33) (v := (255 : Int32)) rfl (n := 36) rfl ?_
        refine o_iand X0 hx (hb hby d_method_3_code_36) (v := (p3 &&& (255 : Int32))) rfl (n := 37) rfl ?_
        refine o_istore X0 hx (hb hby d_method_3_code_37) (Ls' := #[.val (.int p0), .val (.int p1), .val (.int p2), .val (.int p3), .val (.int p4), .val (.int p5), .val (.int (p0 - p1)), .val (.int (p3 &&& (255 : Int32))), .unset]) rfl (n := 39) rfl ?_
        refine o_iload X0 hx (hb hby d_method_3_code_39) (v := (p0 - p1)) rfl (n := 41) rfl ?_
        refine o_iconst X0 hx (hb hby d_method_3_code_41) (v := (2 : Int32)) rfl (n := 42) rfl ?_
        refine o_irem X0 hx (hb hby d_method_3_code_42) (by decide) (v := ((p0 - p1) % (2 : Int32))) rfl (n := 43) rfl ?_
        by_cases hc43 : ((p0 - p1) % (2 : Int32)) = (0 : Int32)
        · refine o_ifN X0 hx (hb hby d_method_3_code_43) (XT.i0_ne_f hc43) (n := 46) rfl ?_
          refine o_iload X0 hx (hb hby d_method_3_code_46) (v := (p3 &&& (255 : Int32))) rfl (n := 48) rfl ?_
          refine o_bipush X0 hx (hb hby d_method_3_code_48) (v := (16 : Int32)) rfl (n := 50) rfl ?_
          refine o_idiv X0 hx (hb hby d_method_3_code_50) (by decide) (v := ((p3 &&& (255 : Int32)) / (16 : Int32))) rfl (n := 51) rfl ?_
          refine o_goto X0 hx (hb hby d_method_3_code_51) (by decide) (n := 59) (by decide) ?_
          refine o_istore X0 hx (hb hby d_method_3_code_59) (Ls' := #[.val (.int p0), .val (.int p1), .val (.int p2), .val (.int p3), .val (.int p4), .val (.int p5), .val (.int (p0 - p1)), .val (.int (p3 &&& (255 : Int32))), .val (.int ((p3 &&& (255 : Int32)) / (16 : Int32)))]) rfl (n := 61) rfl ?_
          refine o_iload X0 hx (hb hby d_method_3_code_61) (v := ((p3 &&& (255 : Int32)) / (16 : Int32))) rfl (n := 63) rfl ?_
          refine o_bipush X0 hx (hb hby d_method_3_code_63) (v := (10 : Int32)) rfl (n := 65) rfl ?_
          by_cases hc65 : ((p3 &&& (255 : Int32)) / (16 : Int32)) < (10 : Int32)
          · refine o_icmpN X0 hx (hb hby d_method_3_code_65) (XT.ii_ge_f hc65) (n := 68) rfl ?_
            refine o_bipush X0 hx (hb hby d_method_3_code_68) (v := (48 : Int32)) rfl (n := 70) rfl ?_
            refine o_iload X0 hx (hb hby d_method_3_code_70) (v := ((p3 &&& (255 : Int32)) / (16 : Int32))) rfl (n := 72) rfl ?_
            refine o_iadd X0 hx (hb hby d_method_3_code_72) (v := ((48 : Int32) + ((p3 &&& (255 : Int32)) / (16 : Int32)))) rfl (n := 73) rfl ?_
            refine o_i2b X0 hx (hb hby d_method_3_code_73) (v := ((48 : Int32) + ((p3 &&& (255 : Int32)) / (16 : Int32))).toInt8.toInt32) rfl (n := 74) rfl ?_
            exact o_nreturn X0 hx hret hlk (t := .byte) (by simp) (hb hby d_method_3_code_74) (by decide) (by decide) e0 ⟨by rw [show nar .byte (((48 : Int32) + ((p3 &&& (255 : Int32)) / (16 : Int32))).toInt8.toInt32) = ((48 : Int32) + ((p3 &&& (255 : Int32)) / (16 : Int32))).toInt8.toInt32 from o_nar8 _]; simp [o_ex, o_hex, hc7, hc15, hc24, hc43, hc65], rfl, rfl⟩
          · refine o_icmpY X0 hx (hb hby d_method_3_code_65) (XT.ii_ge_t hc65) (by decide) (n := 75) (by decide) ?_
            refine o_bipush X0 hx (hb hby d_method_3_code_75) (v := (65 : Int32)) rfl (n := 77) rfl ?_
            refine o_iload X0 hx (hb hby d_method_3_code_77) (v := ((p3 &&& (255 : Int32)) / (16 : Int32))) rfl (n := 79) rfl ?_
            refine o_bipush X0 hx (hb hby d_method_3_code_79) (v := (10 : Int32)) rfl (n := 81) rfl ?_
            refine o_isub X0 hx (hb hby d_method_3_code_81) (v := (((p3 &&& (255 : Int32)) / (16 : Int32)) - (10 : Int32))) rfl (n := 82) rfl ?_
            refine o_iadd X0 hx (hb hby d_method_3_code_82) (v := ((65 : Int32) + (((p3 &&& (255 : Int32)) / (16 : Int32)) - (10 : Int32)))) rfl (n := 83) rfl ?_
            refine o_i2b X0 hx (hb hby d_method_3_code_83) (v := ((65 : Int32) + (((p3 &&& (255 : Int32)) / (16 : Int32)) - (10 : Int32))).toInt8.toInt32) rfl (n := 84) rfl ?_
            exact o_nreturn X0 hx hret hlk (t := .byte) (by simp) (hb hby d_method_3_code_84) (by decide) (by decide) e0 ⟨by rw [show nar .byte (((65 : Int32) + (((p3 &&& (255 : Int32)) / (16 : Int32)) - (10 : Int32))).toInt8.toInt32) = ((65 : Int32) + (((p3 &&& (255 : Int32)) / (16 : Int32)) - (10 : Int32))).toInt8.toInt32 from o_nar8 _]; simp [o_ex, o_hex, hc7, hc15, hc24, hc43, hc65], rfl, rfl⟩
        · refine o_ifY X0 hx (hb hby d_method_3_code_43) (XT.i0_ne_t hc43) (by decide) (n := 54) (by decide) ?_
          refine o_iload X0 hx (hb hby d_method_3_code_54) (v := (p3 &&& (255 : Int32))) rfl (n := 56) rfl ?_
          refine o_bipush X0 hx (hb hby d_method_3_code_56) (v := (16 : Int32)) rfl (n := 58) rfl ?_
          refine o_irem X0 hx (hb hby d_method_3_code_58) (by decide) (v := ((p3 &&& (255 : Int32)) % (16 : Int32))) rfl (n := 59) rfl ?_
          refine o_istore X0 hx (hb hby d_method_3_code_59) (Ls' := #[.val (.int p0), .val (.int p1), .val (.int p2), .val (.int p3), .val (.int p4), .val (.int p5), .val (.int (p0 - p1)), .val (.int (p3 &&& (255 : Int32))), .val (.int ((p3 &&& (255 : Int32)) % (16 : Int32)))]) rfl (n := 61) rfl ?_
          refine o_iload X0 hx (hb hby d_method_3_code_61) (v := ((p3 &&& (255 : Int32)) % (16 : Int32))) rfl (n := 63) rfl ?_
          refine o_bipush X0 hx (hb hby d_method_3_code_63) (v := (10 : Int32)) rfl (n := 65) rfl ?_
          by_cases hc65 : ((p3 &&& (255 : Int32)) % (16 : Int32)) < (10 : Int32)
          · refine o_icmpN X0 hx (hb hby d_method_3_code_65) (XT.ii_ge_f hc65) (n := 68) rfl ?_
            refine o_bipush X0 hx (hb hby d_method_3_code_68) (v := (48 : Int32)) rfl (n := 70) rfl ?_
            refine o_iload X0 hx (hb hby d_method_3_code_70) (v := ((p3 &&& (255 : Int32)) % (16 : Int32))) rfl (n := 72) rfl ?_
            refine o_iadd X0 hx (hb hby d_method_3_code_72) (v := ((48 : Int32) + ((p3 &&& (255 : Int32)) % (16 : Int32)))) rfl (n := 73) rfl ?_
            refine o_i2b X0 hx (hb hby d_method_3_code_73) (v := ((48 : Int32) + ((p3 &&& (255 : Int32)) % (16 : Int32))).toInt8.toInt32) rfl (n := 74) rfl ?_
            exact o_nreturn X0 hx hret hlk (t := .byte) (by simp) (hb hby d_method_3_code_74) (by decide) (by decide) e0 ⟨by rw [show nar .byte (((48 : Int32) + ((p3 &&& (255 : Int32)) % (16 : Int32))).toInt8.toInt32) = ((48 : Int32) + ((p3 &&& (255 : Int32)) % (16 : Int32))).toInt8.toInt32 from o_nar8 _]; simp [o_ex, o_hex, hc7, hc15, hc24, hc43, hc65], rfl, rfl⟩
          · refine o_icmpY X0 hx (hb hby d_method_3_code_65) (XT.ii_ge_t hc65) (by decide) (n := 75) (by decide) ?_
            refine o_bipush X0 hx (hb hby d_method_3_code_75) (v := (65 : Int32)) rfl (n := 77) rfl ?_
            refine o_iload X0 hx (hb hby d_method_3_code_77) (v := ((p3 &&& (255 : Int32)) % (16 : Int32))) rfl (n := 79) rfl ?_
            refine o_bipush X0 hx (hb hby d_method_3_code_79) (v := (10 : Int32)) rfl (n := 81) rfl ?_
            refine o_isub X0 hx (hb hby d_method_3_code_81) (v := (((p3 &&& (255 : Int32)) % (16 : Int32)) - (10 : Int32))) rfl (n := 82) rfl ?_
            refine o_iadd X0 hx (hb hby d_method_3_code_82) (v := ((65 : Int32) + (((p3 &&& (255 : Int32)) % (16 : Int32)) - (10 : Int32)))) rfl (n := 83) rfl ?_
            refine o_i2b X0 hx (hb hby d_method_3_code_83) (v := ((65 : Int32) + (((p3 &&& (255 : Int32)) % (16 : Int32)) - (10 : Int32))).toInt8.toInt32) rfl (n := 84) rfl ?_
            exact o_nreturn X0 hx hret hlk (t := .byte) (by simp) (hb hby d_method_3_code_84) (by decide) (by decide) e0 ⟨by rw [show nar .byte (((65 : Int32) + (((p3 &&& (255 : Int32)) % (16 : Int32)) - (10 : Int32))).toInt8.toInt32) = ((65 : Int32) + (((p3 &&& (255 : Int32)) % (16 : Int32)) - (10 : Int32))).toInt8.toInt32 from o_nar8 _]; simp [o_ex, o_hex, hc7, hc15, hc24, hc43, hc65], rfl, rfl⟩
      · refine o_icmpY X0 hx (hb hby d_method_3_code_24) (XT.ii_ge_t hc24) (by decide) (n := 31) (by decide) ?_
        refine o_iload X0 hx (hb hby d_method_3_code_31) (v := p4) rfl (n := 33) rfl ?_
        refine o_sipush X0 hx (hb hby d_method_3_code_33) (v := (255 : Int32)) rfl (n := 36) rfl ?_
        refine o_iand X0 hx (hb hby d_method_3_code_36) (v := (p4 &&& (255 : Int32))) rfl (n := 37) rfl ?_
        refine o_istore X0 hx (hb hby d_method_3_code_37) (Ls' := #[.val (.int p0), .val (.int p1), .val (.int p2), .val (.int p3), .val (.int p4), .val (.int p5), .val (.int (p0 - p1)), .val (.int (p4 &&& (255 : Int32))), .unset]) rfl (n := 39) rfl ?_
        refine o_iload X0 hx (hb hby d_method_3_code_39) (v := (p0 - p1)) rfl (n := 41) rfl ?_
        refine o_iconst X0 hx (hb hby d_method_3_code_41) (v := (2 : Int32)) rfl (n := 42) rfl ?_
        refine o_irem X0 hx (hb hby d_method_3_code_42) (by decide) (v := ((p0 - p1) % (2 : Int32))) rfl (n := 43) rfl ?_
        by_cases hc43 : ((p0 - p1) % (2 : Int32)) = (0 : Int32)
        · refine o_ifN X0 hx (hb hby d_method_3_code_43) (XT.i0_ne_f hc43) (n := 46) rfl ?_
          refine o_iload X0 hx (hb hby d_method_3_code_46) (v := (p4 &&& (255 : Int32))) rfl (n := 48) rfl ?_
          refine o_bipush X0 hx (hb hby d_method_3_code_48) (v := (16 : Int32)) rfl (n := 50) rfl ?_
          refine o_idiv X0 hx (hb hby d_method_3_code_50) (by decide) (v := ((p4 &&& (255 : Int32)) / (16 : Int32))) rfl (n := 51) rfl ?_
          refine o_goto X0 hx (hb hby d_method_3_code_51) (by decide) (n := 59) (by decide) ?_
          refine o_istore X0 hx (hb hby d_method_3_code_59) (Ls' := #[.val (.int p0), .val (.int p1), .val (.int p2), .val (.int p3), .val (.int p4), .val (.int p5), .val (.int (p0 - p1)), .val (.int (p4 &&& (255 : Int32))), .val (.int ((p4 &&& (255 : Int32)) / (16 : Int32)))]) rfl (n := 61) rfl ?_
          refine o_iload X0 hx (hb hby d_method_3_code_61) (v := ((p4 &&& (255 : Int32)) / (16 : Int32))) rfl (n := 63) rfl ?_
          refine o_bipush X0 hx (hb hby d_method_3_code_63) (v := (10 : Int32)) rfl (n := 65) rfl ?_
          by_cases hc65 : ((p4 &&& (255 : Int32)) / (16 : Int32)) < (10 : Int32)
          · refine o_icmpN X0 hx (hb hby d_method_3_code_65) (XT.ii_ge_f hc65) (n := 68) rfl ?_
            refine o_bipush X0 hx (hb hby d_method_3_code_68) (v := (48 : Int32)) rfl (n := 70) rfl ?_
            refine o_iload X0 hx (hb hby d_method_3_code_70) (v := ((p4 &&& (255 : Int32)) / (16 : Int32))) rfl (n := 72) rfl ?_
            refine o_iadd X0 hx (hb hby d_method_3_code_72) (v := ((48 : Int32) + ((p4 &&& (255 : Int32)) / (16 : Int32)))) rfl (n := 73) rfl ?_
            refine o_i2b X0 hx (hb hby d_method_3_code_73) (v := ((48 : Int32) + ((p4 &&& (255 : Int32)) / (16 : Int32))).toInt8.toInt32) rfl (n := 74) rfl ?_
            exact o_nreturn X0 hx hret hlk (t := .byte) (by simp) (hb hby d_method_3_code_74) (by decide) (by decide) e0 ⟨by rw [show nar .byte (((48 : Int32) + ((p4 &&& (255 : Int32)) / (16 : Int32))).toInt8.toInt32) = ((48 : Int32) + ((p4 &&& (255 : Int32)) / (16 : Int32))).toInt8.toInt32 from o_nar8 _]; simp [o_ex, o_hex, hc7, hc15, hc24, hc43, hc65], rfl, rfl⟩
          · refine o_icmpY X0 hx (hb hby d_method_3_code_65) (XT.ii_ge_t hc65) (by decide) (n := 75) (by decide) ?_
            refine o_bipush X0 hx (hb hby d_method_3_code_75) (v := (65 : Int32)) rfl (n := 77) rfl ?_
            refine o_iload X0 hx (hb hby d_method_3_code_77) (v := ((p4 &&& (255 : Int32)) / (16 : Int32))) rfl (n := 79) rfl ?_
            refine o_bipush X0 hx (hb hby d_method_3_code_79) (v := (10 : Int32)) rfl (n := 81) rfl ?_
            refine o_isub X0 hx (hb hby d_method_3_code_81) (v := (((p4 &&& (255 : Int32)) / (16 : Int32)) - (10 : Int32))) rfl (n := 82) rfl ?_
            refine o_iadd X0 hx (hb hby d_method_3_code_82) (v := ((65 : Int32) + (((p4 &&& (255 : Int32)) / (16 : Int32)) - (10 : Int32)))) rfl (n := 83) rfl ?_
            refine o_i2b X0 hx (hb hby d_method_3_code_83) (v := ((65 : Int32) + (((p4 &&& (255 : Int32)) / (16 : Int32)) - (10 : Int32))).toInt8.toInt32) rfl (n := 84) rfl ?_
            exact o_nreturn X0 hx hret hlk (t := .byte) (by simp) (hb hby d_method_3_code_84) (by decide) (by decide) e0 ⟨by rw [show nar .byte (((65 : Int32) + (((p4 &&& (255 : Int32)) / (16 : Int32)) - (10 : Int32))).toInt8.toInt32) = ((65 : Int32) + (((p4 &&& (255 : Int32)) / (16 : Int32)) - (10 : Int32))).toInt8.toInt32 from o_nar8 _]; simp [o_ex, o_hex, hc7, hc15, hc24, hc43, hc65], rfl, rfl⟩
        · refine o_ifY X0 hx (hb hby d_method_3_code_43) (XT.i0_ne_t hc43) (by decide) (n := 54) (by decide) ?_
          refine o_iload X0 hx (hb hby d_method_3_code_54) (v := (p4 &&& (255 : Int32))) rfl (n := 56) rfl ?_
          refine o_bipush X0 hx (hb hby d_method_3_code_56) (v := (16 : Int32)) rfl (n := 58) rfl ?_
          refine o_irem X0 hx (hb hby d_method_3_code_58) (by decide) (v := ((p4 &&& (255 : Int32)) % (16 : Int32))) rfl (n := 59) rfl ?_
          refine o_istore X0 hx (hb hby d_method_3_code_59) (Ls' := #[.val (.int p0), .val (.int p1), .val (.int p2), .val (.int p3), .val (.int p4), .val (.int p5), .val (.int (p0 - p1)), .val (.int (p4 &&& (255 : Int32))), .val (.int ((p4 &&& (255 : Int32)) % (16 : Int32)))]) rfl (n := 61) rfl ?_
          refine o_iload X0 hx (hb hby d_method_3_code_61) (v := ((p4 &&& (255 : Int32)) % (16 : Int32))) rfl (n := 63) rfl ?_
          refine o_bipush X0 hx (hb hby d_method_3_code_63) (v := (10 : Int32)) rfl (n := 65) rfl ?_
          by_cases hc65 : ((p4 &&& (255 : Int32)) % (16 : Int32)) < (10 : Int32)
          · refine o_icmpN X0 hx (hb hby d_method_3_code_65) (XT.ii_ge_f hc65) (n := 68) rfl ?_
            refine o_bipush X0 hx (hb hby d_method_3_code_68) (v := (48 : Int32)) rfl (n := 70) rfl ?_
            refine o_iload X0 hx (hb hby d_method_3_code_70) (v := ((p4 &&& (255 : Int32)) % (16 : Int32))) rfl (n := 72) rfl ?_
            refine o_iadd X0 hx (hb hby d_method_3_code_72) (v := ((48 : Int32) + ((p4 &&& (255 : Int32)) % (16 : Int32)))) rfl (n := 73) rfl ?_
            refine o_i2b X0 hx (hb hby d_method_3_code_73) (v := ((48 : Int32) + ((p4 &&& (255 : Int32)) % (16 : Int32))).toInt8.toInt32) rfl (n := 74) rfl ?_
            exact o_nreturn X0 hx hret hlk (t := .byte) (by simp) (hb hby d_method_3_code_74) (by decide) (by decide) e0 ⟨by rw [show nar .byte (((48 : Int32) + ((p4 &&& (255 : Int32)) % (16 : Int32))).toInt8.toInt32) = ((48 : Int32) + ((p4 &&& (255 : Int32)) % (16 : Int32))).toInt8.toInt32 from o_nar8 _]; simp [o_ex, o_hex, hc7, hc15, hc24, hc43, hc65], rfl, rfl⟩
          · refine o_icmpY X0 hx (hb hby d_method_3_code_65) (XT.ii_ge_t hc65) (by decide) (n := 75) (by decide) ?_
            refine o_bipush X0 hx (hb hby d_method_3_code_75) (v := (65 : Int32)) rfl (n := 77) rfl ?_
            refine o_iload X0 hx (hb hby d_method_3_code_77) (v := ((p4 &&& (255 : Int32)) % (16 : Int32))) rfl (n := 79) rfl ?_
            refine o_bipush X0 hx (hb hby d_method_3_code_79) (v := (10 : Int32)) rfl (n := 81) rfl ?_
            refine o_isub X0 hx (hb hby d_method_3_code_81) (v := (((p4 &&& (255 : Int32)) % (16 : Int32)) - (10 : Int32))) rfl (n := 82) rfl ?_
            refine o_iadd X0 hx (hb hby d_method_3_code_82) (v := ((65 : Int32) + (((p4 &&& (255 : Int32)) % (16 : Int32)) - (10 : Int32)))) rfl (n := 83) rfl ?_
            refine o_i2b X0 hx (hb hby d_method_3_code_83) (v := ((65 : Int32) + (((p4 &&& (255 : Int32)) % (16 : Int32)) - (10 : Int32))).toInt8.toInt32) rfl (n := 84) rfl ?_
            exact o_nreturn X0 hx hret hlk (t := .byte) (by simp) (hb hby d_method_3_code_84) (by decide) (by decide) e0 ⟨by rw [show nar .byte (((65 : Int32) + (((p4 &&& (255 : Int32)) % (16 : Int32)) - (10 : Int32))).toInt8.toInt32) = ((65 : Int32) + (((p4 &&& (255 : Int32)) % (16 : Int32)) - (10 : Int32))).toInt8.toInt32 from o_nar8 _]; simp [o_ex, o_hex, hc7, hc15, hc24, hc43, hc65], rfl, rfl⟩
    · refine o_icmpN X0 hx (hb hby d_method_3_code_15) (XT.ii_lt_f hc15) (n := 18) rfl ?_
      refine o_iload X0 hx (hb hby d_method_3_code_18) (v := p5) rfl (n := 20) rfl ?_
      exact o_nreturn X0 hx hret hlk (t := .byte) (by simp) (hb hby d_method_3_code_20) (by decide) (by decide) e0 ⟨by rw [show nar .byte p5 = p5 from hf]; simp [o_ex, o_hex, hc7, hc15], rfl, rfl⟩
theorem d_prog_43_method_3_code_0 : decode prog_43_method_3_code 0 = .ok (.iload_n 2, 1) := by decide +kernel
theorem d_prog_43_method_3_code_1 : decode prog_43_method_3_code 1 = .ok (.istore_n 3, 1) := by decide +kernel
theorem d_prog_43_method_3_code_2 : decode prog_43_method_3_code 2 = .ok (.aload_n 0, 1) := by decide +kernel
theorem d_prog_43_method_3_code_3 : decode prog_43_method_3_code 3 = .ok (.astore 4, 2) := by decide +kernel
theorem d_prog_43_method_3_code_5 : decode prog_43_method_3_code 5 = .ok (.aload 4, 2) := by decide +kernel
theorem d_prog_43_method_3_code_7 : decode prog_43_method_3_code 7 = .ok (.arraylength, 1) := by decide +kernel
theorem d_prog_43_method_3_code_8 : decode prog_43_method_3_code 8 = .ok (.istore 5, 2) := by decide +kernel
theorem d_prog_43_method_3_code_10 : decode prog_43_method_3_code 10 = .ok (.iconst 0, 1) := by decide +kernel
theorem d_prog_43_method_3_code_11 : decode prog_43_method_3_code 11 = .ok (.istore 6, 2) := by decide +kernel
theorem d_prog_43_method_3_code_13 : decode prog_43_method_3_code 13 = .ok (.iload 6, 2) := by decide +kernel
theorem d_prog_43_method_3_code_15 : decode prog_43_method_3_code 15 = .ok (.iload 5, 2) := by decide +kernel
theorem d_prog_43_method_3_code_17 : decode prog_43_method_3_code 17 = .ok (.if_icmp .ge 48, 3) := by decide +kernel
theorem d_prog_43_method_3_code_65 : decode prog_43_method_3_code 65 = .ok (.iload_n 3, 1) := by decide +kernel
theorem d_prog_43_method_3_code_66 : decode prog_43_method_3_code 66 = .ok (.ireturn, 1) := by decide +kernel
theorem o_ef2 (m : MethodId) (a1 : Addr) (a2 : Addr) : entryFrame m #[(.ref a1), (.ref a2), (.int (0 : Int32))] 8 = mkF m 0 #[.val (.ref a1), .val (.ref a2), .val (.int (0 : Int32)), .unset, .unset, .unset, .unset, .unset] [] := by first | (simp [entryFrame, mkF, argsToLocals, Value.category]; done) | rfl
theorem o_pn1 : plainName "com/example/vigilant_card/vigilantcard/Hex" = true := by first | (simp [plainName, overriddenIn]; done) | decide +kernel
set_option maxRecDepth 65536 in
set_option maxHeartbeats 40000000 in
theorem c_format_0_0 (l : Launch) (Z : State) (a0 : Array Value) (hw : ∀ d ∈ tables_1, d.before a0 Z = true) (a1 : Addr) (k1 : ClassId) (a2 : Addr) (k2 : ClassId) (d0 : Addr) (k3 : ClassId) (b0 : Int32) (b1 : Int32) (f : Int32) (h0 : Heap) (n0 : Nat) (Z0 : n0 ≤ h0.size) (pg_a2 : n0 ≤ a2) (pV_a1 : Arv Z h0 a1 k1 .byte (0 : Int32) [] (.int (0 : Int32))) (pV_a2 : Arv Z h0 a2 k2 .byte (6 : Int32) [(.int f), (.int f), (.int f), (.int f), (.int f), (.int f)] (.int (0 : Int32))) (pS_UPPER_CASE_DIGITS : Sta Z h0 "com/example/vigilant_card/vigilantcard/Hex" "UPPER_CASE_DIGITS" "[B" (.ref d0)) (pV_d0 : Arv Z h0 d0 k3 .byte (16 : Int32) [(.int (48 : Int32)), (.int (49 : Int32)), (.int (50 : Int32)), (.int (51 : Int32)), (.int (52 : Int32)), (.int (53 : Int32)), (.int (54 : Int32)), (.int (55 : Int32)), (.int (56 : Int32)), (.int (57 : Int32)), (.int (65 : Int32)), (.int (66 : Int32)), (.int (67 : Int32)), (.int (68 : Int32)), (.int (69 : Int32)), (.int (70 : Int32))] (.int (0 : Int32))) (pne_a1_a2 : a1 ≠ a2) (pne_d0_a2 : d0 ≠ a2) :
    Does l Z (⟨"com/example/vigilant_card/vigilantcard/Hex", "format", "([B[BI)I"⟩ : MethodName) prog_43_method_3_code 8 (some .int) [] ({ frames := 0, cells := 0, slots := 0, locals := 0 } : Room) #[(.ref a1), (.ref a2), (.int (0 : Int32))] h0 (fun v h L => v = some (.int ((0 : Int32) + (0 : Int32))) ∧ Fr n0 L ∧ Keep h0 h [a2] ∧ Arv Z h a2 k2 .byte (6 : Int32) [(.int (o_ex (0 : Int32) (0 : Int32) (0 : Int32) b0 b1 f)), (.int (o_ex (1 : Int32) (0 : Int32) (0 : Int32) b0 b1 f)), (.int (o_ex (2 : Int32) (0 : Int32) (0 : Int32) b0 b1 f)), (.int (o_ex (3 : Int32) (0 : Int32) (0 : Int32) b0 b1 f)), (.int (o_ex (4 : Int32) (0 : Int32) (0 : Int32) b0 b1 f)), (.int (o_ex (5 : Int32) (0 : Int32) (0 : Int32) b0 b1 f))] (.int (0 : Int32))) := by
  refine Does.of (plainFor_of_name o_pn1) ?_
  intro p e s m below meth c T0 hx hby hml hown hnm hret hlk hZ X0 e0
  have hown : s.vm.findClass "com/example/vigilant_card/vigilantcard/Hex" = some m.cls := hown
  have hml : c.maxLocals = 8 := hml
  have hret : meth.sig.returnType = some .int := hret
  refine o_entry (o_ef2 m a1 a2) ?_
  have N0 := Fr.nil n0
  refine o_iloadN X0 hx (hb hby d_prog_43_method_3_code_0) (v := (0 : Int32)) rfl (n := 1) rfl ?_
  refine o_istoreN X0 hx (hb hby d_prog_43_method_3_code_1) (Ls' := #[.val (.ref a1), .val (.ref a2), .val (.int (0 : Int32)), .val (.int (0 : Int32)), .unset, .unset, .unset, .unset]) rfl (n := 2) rfl ?_
  refine o_aloadN X0 hx (hb hby d_prog_43_method_3_code_2) (v := (.ref a1)) rfl rfl (n := 3) rfl ?_
  refine o_astore X0 hx (hb hby d_prog_43_method_3_code_3) rfl (Ls' := #[.val (.ref a1), .val (.ref a2), .val (.int (0 : Int32)), .val (.int (0 : Int32)), .val (.ref a1), .unset, .unset, .unset]) rfl (n := 5) rfl ?_
  refine o_aload X0 hx (hb hby d_prog_43_method_3_code_5) (v := (.ref a1)) rfl rfl (n := 7) rfl ?_
  refine o_arraylength X0 hx hZ e0 pV_a1 (hb hby d_prog_43_method_3_code_7) (n := 8) rfl ?_
  refine o_istore X0 hx (hb hby d_prog_43_method_3_code_8) (Ls' := #[.val (.ref a1), .val (.ref a2), .val (.int (0 : Int32)), .val (.int (0 : Int32)), .val (.ref a1), .val (.int (0 : Int32)), .unset, .unset]) rfl (n := 10) rfl ?_
  refine o_iconst X0 hx (hb hby d_prog_43_method_3_code_10) (v := (0 : Int32)) rfl (n := 11) rfl ?_
  refine o_istore X0 hx (hb hby d_prog_43_method_3_code_11) (Ls' := #[.val (.ref a1), .val (.ref a2), .val (.int (0 : Int32)), .val (.int (0 : Int32)), .val (.ref a1), .val (.int (0 : Int32)), .val (.int (0 : Int32)), .unset]) rfl (n := 13) rfl ?_
  refine o_iload X0 hx (hb hby d_prog_43_method_3_code_13) (v := (0 : Int32)) rfl (n := 15) rfl ?_
  refine o_iload X0 hx (hb hby d_prog_43_method_3_code_15) (v := (0 : Int32)) rfl (n := 17) rfl ?_
  refine o_icmpY X0 hx (hb hby d_prog_43_method_3_code_17) (XT.ii_ge_t (by decide)) (by decide) (n := 65) (by decide) ?_
  refine o_iloadN X0 hx (hb hby d_prog_43_method_3_code_65) (v := (0 : Int32)) rfl (n := 66) rfl ?_
  exact o_ireturn X0 hx hret hlk (hb hby d_prog_43_method_3_code_66) (by decide) (by decide) e0 ⟨(by decide), N0, (Keep.refl h0 [a2]), pV_a2⟩
theorem o_ef3 (m : MethodId) (a1 : Addr) (a2 : Addr) : entryFrame m #[(.ref a1), (.ref a2), (.int (1 : Int32))] 8 = mkF m 0 #[.val (.ref a1), .val (.ref a2), .val (.int (1 : Int32)), .unset, .unset, .unset, .unset, .unset] [] := by first | (simp [entryFrame, mkF, argsToLocals, Value.category]; done) | rfl
set_option maxRecDepth 65536 in
set_option maxHeartbeats 40000000 in
theorem c_format_0_1 (l : Launch) (Z : State) (a0 : Array Value) (hw : ∀ d ∈ tables_1, d.before a0 Z = true) (a1 : Addr) (k1 : ClassId) (a2 : Addr) (k2 : ClassId) (d0 : Addr) (k3 : ClassId) (b0 : Int32) (b1 : Int32) (f : Int32) (h0 : Heap) (n0 : Nat) (Z0 : n0 ≤ h0.size) (pg_a2 : n0 ≤ a2) (pV_a1 : Arv Z h0 a1 k1 .byte (0 : Int32) [] (.int (0 : Int32))) (pV_a2 : Arv Z h0 a2 k2 .byte (6 : Int32) [(.int f), (.int f), (.int f), (.int f), (.int f), (.int f)] (.int (0 : Int32))) (pS_UPPER_CASE_DIGITS : Sta Z h0 "com/example/vigilant_card/vigilantcard/Hex" "UPPER_CASE_DIGITS" "[B" (.ref d0)) (pV_d0 : Arv Z h0 d0 k3 .byte (16 : Int32) [(.int (48 : Int32)), (.int (49 : Int32)), (.int (50 : Int32)), (.int (51 : Int32)), (.int (52 : Int32)), (.int (53 : Int32)), (.int (54 : Int32)), (.int (55 : Int32)), (.int (56 : Int32)), (.int (57 : Int32)), (.int (65 : Int32)), (.int (66 : Int32)), (.int (67 : Int32)), (.int (68 : Int32)), (.int (69 : Int32)), (.int (70 : Int32))] (.int (0 : Int32))) (pne_a1_a2 : a1 ≠ a2) (pne_d0_a2 : d0 ≠ a2) :
    Does l Z (⟨"com/example/vigilant_card/vigilantcard/Hex", "format", "([B[BI)I"⟩ : MethodName) prog_43_method_3_code 8 (some .int) [] ({ frames := 0, cells := 0, slots := 0, locals := 0 } : Room) #[(.ref a1), (.ref a2), (.int (1 : Int32))] h0 (fun v h L => v = some (.int ((1 : Int32) + (0 : Int32))) ∧ Fr n0 L ∧ Keep h0 h [a2] ∧ Arv Z h a2 k2 .byte (6 : Int32) [(.int (o_ex (0 : Int32) (1 : Int32) (0 : Int32) b0 b1 f)), (.int (o_ex (1 : Int32) (1 : Int32) (0 : Int32) b0 b1 f)), (.int (o_ex (2 : Int32) (1 : Int32) (0 : Int32) b0 b1 f)), (.int (o_ex (3 : Int32) (1 : Int32) (0 : Int32) b0 b1 f)), (.int (o_ex (4 : Int32) (1 : Int32) (0 : Int32) b0 b1 f)), (.int (o_ex (5 : Int32) (1 : Int32) (0 : Int32) b0 b1 f))] (.int (0 : Int32))) := by
  refine Does.of (plainFor_of_name o_pn1) ?_
  intro p e s m below meth c T0 hx hby hml hown hnm hret hlk hZ X0 e0
  have hown : s.vm.findClass "com/example/vigilant_card/vigilantcard/Hex" = some m.cls := hown
  have hml : c.maxLocals = 8 := hml
  have hret : meth.sig.returnType = some .int := hret
  refine o_entry (o_ef3 m a1 a2) ?_
  have N0 := Fr.nil n0
  refine o_iloadN X0 hx (hb hby d_prog_43_method_3_code_0) (v := (1 : Int32)) rfl (n := 1) rfl ?_
  refine o_istoreN X0 hx (hb hby d_prog_43_method_3_code_1) (Ls' := #[.val (.ref a1), .val (.ref a2), .val (.int (1 : Int32)), .val (.int (1 : Int32)), .unset, .unset, .unset, .unset]) rfl (n := 2) rfl ?_
  refine o_aloadN X0 hx (hb hby d_prog_43_method_3_code_2) (v := (.ref a1)) rfl rfl (n := 3) rfl ?_
  refine o_astore X0 hx (hb hby d_prog_43_method_3_code_3) rfl (Ls' := #[.val (.ref a1), .val (.ref a2), .val (.int (1 : Int32)), .val (.int (1 : Int32)), .val (.ref a1), .unset, .unset, .unset]) rfl (n := 5) rfl ?_
  refine o_aload X0 hx (hb hby d_prog_43_method_3_code_5) (v := (.ref a1)) rfl rfl (n := 7) rfl ?_
  refine o_arraylength X0 hx hZ e0 pV_a1 (hb hby d_prog_43_method_3_code_7) (n := 8) rfl ?_
  refine o_istore X0 hx (hb hby d_prog_43_method_3_code_8) (Ls' := #[.val (.ref a1), .val (.ref a2), .val (.int (1 : Int32)), .val (.int (1 : Int32)), .val (.ref a1), .val (.int (0 : Int32)), .unset, .unset]) rfl (n := 10) rfl ?_
  refine o_iconst X0 hx (hb hby d_prog_43_method_3_code_10) (v := (0 : Int32)) rfl (n := 11) rfl ?_
  refine o_istore X0 hx (hb hby d_prog_43_method_3_code_11) (Ls' := #[.val (.ref a1), .val (.ref a2), .val (.int (1 : Int32)), .val (.int (1 : Int32)), .val (.ref a1), .val (.int (0 : Int32)), .val (.int (0 : Int32)), .unset]) rfl (n := 13) rfl ?_
  refine o_iload X0 hx (hb hby d_prog_43_method_3_code_13) (v := (0 : Int32)) rfl (n := 15) rfl ?_
  refine o_iload X0 hx (hb hby d_prog_43_method_3_code_15) (v := (0 : Int32)) rfl (n := 17) rfl ?_
  refine o_icmpY X0 hx (hb hby d_prog_43_method_3_code_17) (XT.ii_ge_t (by decide)) (by decide) (n := 65) (by decide) ?_
  refine o_iloadN X0 hx (hb hby d_prog_43_method_3_code_65) (v := (1 : Int32)) rfl (n := 66) rfl ?_
  exact o_ireturn X0 hx hret hlk (hb hby d_prog_43_method_3_code_66) (by decide) (by decide) e0 ⟨(by decide), N0, (Keep.refl h0 [a2]), pV_a2⟩
theorem o_ef4 (m : MethodId) (a1 : Addr) (a2 : Addr) : entryFrame m #[(.ref a1), (.ref a2), (.int (2 : Int32))] 8 = mkF m 0 #[.val (.ref a1), .val (.ref a2), .val (.int (2 : Int32)), .unset, .unset, .unset, .unset, .unset] [] := by first | (simp [entryFrame, mkF, argsToLocals, Value.category]; done) | rfl
set_option maxRecDepth 65536 in
set_option maxHeartbeats 40000000 in
theorem c_format_0_2 (l : Launch) (Z : State) (a0 : Array Value) (hw : ∀ d ∈ tables_1, d.before a0 Z = true) (a1 : Addr) (k1 : ClassId) (a2 : Addr) (k2 : ClassId) (d0 : Addr) (k3 : ClassId) (b0 : Int32) (b1 : Int32) (f : Int32) (h0 : Heap) (n0 : Nat) (Z0 : n0 ≤ h0.size) (pg_a2 : n0 ≤ a2) (pV_a1 : Arv Z h0 a1 k1 .byte (0 : Int32) [] (.int (0 : Int32))) (pV_a2 : Arv Z h0 a2 k2 .byte (6 : Int32) [(.int f), (.int f), (.int f), (.int f), (.int f), (.int f)] (.int (0 : Int32))) (pS_UPPER_CASE_DIGITS : Sta Z h0 "com/example/vigilant_card/vigilantcard/Hex" "UPPER_CASE_DIGITS" "[B" (.ref d0)) (pV_d0 : Arv Z h0 d0 k3 .byte (16 : Int32) [(.int (48 : Int32)), (.int (49 : Int32)), (.int (50 : Int32)), (.int (51 : Int32)), (.int (52 : Int32)), (.int (53 : Int32)), (.int (54 : Int32)), (.int (55 : Int32)), (.int (56 : Int32)), (.int (57 : Int32)), (.int (65 : Int32)), (.int (66 : Int32)), (.int (67 : Int32)), (.int (68 : Int32)), (.int (69 : Int32)), (.int (70 : Int32))] (.int (0 : Int32))) (pne_a1_a2 : a1 ≠ a2) (pne_d0_a2 : d0 ≠ a2) :
    Does l Z (⟨"com/example/vigilant_card/vigilantcard/Hex", "format", "([B[BI)I"⟩ : MethodName) prog_43_method_3_code 8 (some .int) [] ({ frames := 0, cells := 0, slots := 0, locals := 0 } : Room) #[(.ref a1), (.ref a2), (.int (2 : Int32))] h0 (fun v h L => v = some (.int ((2 : Int32) + (0 : Int32))) ∧ Fr n0 L ∧ Keep h0 h [a2] ∧ Arv Z h a2 k2 .byte (6 : Int32) [(.int (o_ex (0 : Int32) (2 : Int32) (0 : Int32) b0 b1 f)), (.int (o_ex (1 : Int32) (2 : Int32) (0 : Int32) b0 b1 f)), (.int (o_ex (2 : Int32) (2 : Int32) (0 : Int32) b0 b1 f)), (.int (o_ex (3 : Int32) (2 : Int32) (0 : Int32) b0 b1 f)), (.int (o_ex (4 : Int32) (2 : Int32) (0 : Int32) b0 b1 f)), (.int (o_ex (5 : Int32) (2 : Int32) (0 : Int32) b0 b1 f))] (.int (0 : Int32))) := by
  refine Does.of (plainFor_of_name o_pn1) ?_
  intro p e s m below meth c T0 hx hby hml hown hnm hret hlk hZ X0 e0
  have hown : s.vm.findClass "com/example/vigilant_card/vigilantcard/Hex" = some m.cls := hown
  have hml : c.maxLocals = 8 := hml
  have hret : meth.sig.returnType = some .int := hret
  refine o_entry (o_ef4 m a1 a2) ?_
  have N0 := Fr.nil n0
  refine o_iloadN X0 hx (hb hby d_prog_43_method_3_code_0) (v := (2 : Int32)) rfl (n := 1) rfl ?_
  refine o_istoreN X0 hx (hb hby d_prog_43_method_3_code_1) (Ls' := #[.val (.ref a1), .val (.ref a2), .val (.int (2 : Int32)), .val (.int (2 : Int32)), .unset, .unset, .unset, .unset]) rfl (n := 2) rfl ?_
  refine o_aloadN X0 hx (hb hby d_prog_43_method_3_code_2) (v := (.ref a1)) rfl rfl (n := 3) rfl ?_
  refine o_astore X0 hx (hb hby d_prog_43_method_3_code_3) rfl (Ls' := #[.val (.ref a1), .val (.ref a2), .val (.int (2 : Int32)), .val (.int (2 : Int32)), .val (.ref a1), .unset, .unset, .unset]) rfl (n := 5) rfl ?_
  refine o_aload X0 hx (hb hby d_prog_43_method_3_code_5) (v := (.ref a1)) rfl rfl (n := 7) rfl ?_
  refine o_arraylength X0 hx hZ e0 pV_a1 (hb hby d_prog_43_method_3_code_7) (n := 8) rfl ?_
  refine o_istore X0 hx (hb hby d_prog_43_method_3_code_8) (Ls' := #[.val (.ref a1), .val (.ref a2), .val (.int (2 : Int32)), .val (.int (2 : Int32)), .val (.ref a1), .val (.int (0 : Int32)), .unset, .unset]) rfl (n := 10) rfl ?_
  refine o_iconst X0 hx (hb hby d_prog_43_method_3_code_10) (v := (0 : Int32)) rfl (n := 11) rfl ?_
  refine o_istore X0 hx (hb hby d_prog_43_method_3_code_11) (Ls' := #[.val (.ref a1), .val (.ref a2), .val (.int (2 : Int32)), .val (.int (2 : Int32)), .val (.ref a1), .val (.int (0 : Int32)), .val (.int (0 : Int32)), .unset]) rfl (n := 13) rfl ?_
  refine o_iload X0 hx (hb hby d_prog_43_method_3_code_13) (v := (0 : Int32)) rfl (n := 15) rfl ?_
  refine o_iload X0 hx (hb hby d_prog_43_method_3_code_15) (v := (0 : Int32)) rfl (n := 17) rfl ?_
  refine o_icmpY X0 hx (hb hby d_prog_43_method_3_code_17) (XT.ii_ge_t (by decide)) (by decide) (n := 65) (by decide) ?_
  refine o_iloadN X0 hx (hb hby d_prog_43_method_3_code_65) (v := (2 : Int32)) rfl (n := 66) rfl ?_
  exact o_ireturn X0 hx hret hlk (hb hby d_prog_43_method_3_code_66) (by decide) (by decide) e0 ⟨(by decide), N0, (Keep.refl h0 [a2]), pV_a2⟩
theorem o_ef5 (m : MethodId) (a1 : Addr) (a2 : Addr) : entryFrame m #[(.ref a1), (.ref a2), (.int (3 : Int32))] 8 = mkF m 0 #[.val (.ref a1), .val (.ref a2), .val (.int (3 : Int32)), .unset, .unset, .unset, .unset, .unset] [] := by first | (simp [entryFrame, mkF, argsToLocals, Value.category]; done) | rfl
set_option maxRecDepth 65536 in
set_option maxHeartbeats 40000000 in
theorem c_format_0_3 (l : Launch) (Z : State) (a0 : Array Value) (hw : ∀ d ∈ tables_1, d.before a0 Z = true) (a1 : Addr) (k1 : ClassId) (a2 : Addr) (k2 : ClassId) (d0 : Addr) (k3 : ClassId) (b0 : Int32) (b1 : Int32) (f : Int32) (h0 : Heap) (n0 : Nat) (Z0 : n0 ≤ h0.size) (pg_a2 : n0 ≤ a2) (pV_a1 : Arv Z h0 a1 k1 .byte (0 : Int32) [] (.int (0 : Int32))) (pV_a2 : Arv Z h0 a2 k2 .byte (6 : Int32) [(.int f), (.int f), (.int f), (.int f), (.int f), (.int f)] (.int (0 : Int32))) (pS_UPPER_CASE_DIGITS : Sta Z h0 "com/example/vigilant_card/vigilantcard/Hex" "UPPER_CASE_DIGITS" "[B" (.ref d0)) (pV_d0 : Arv Z h0 d0 k3 .byte (16 : Int32) [(.int (48 : Int32)), (.int (49 : Int32)), (.int (50 : Int32)), (.int (51 : Int32)), (.int (52 : Int32)), (.int (53 : Int32)), (.int (54 : Int32)), (.int (55 : Int32)), (.int (56 : Int32)), (.int (57 : Int32)), (.int (65 : Int32)), (.int (66 : Int32)), (.int (67 : Int32)), (.int (68 : Int32)), (.int (69 : Int32)), (.int (70 : Int32))] (.int (0 : Int32))) (pne_a1_a2 : a1 ≠ a2) (pne_d0_a2 : d0 ≠ a2) :
    Does l Z (⟨"com/example/vigilant_card/vigilantcard/Hex", "format", "([B[BI)I"⟩ : MethodName) prog_43_method_3_code 8 (some .int) [] ({ frames := 0, cells := 0, slots := 0, locals := 0 } : Room) #[(.ref a1), (.ref a2), (.int (3 : Int32))] h0 (fun v h L => v = some (.int ((3 : Int32) + (0 : Int32))) ∧ Fr n0 L ∧ Keep h0 h [a2] ∧ Arv Z h a2 k2 .byte (6 : Int32) [(.int (o_ex (0 : Int32) (3 : Int32) (0 : Int32) b0 b1 f)), (.int (o_ex (1 : Int32) (3 : Int32) (0 : Int32) b0 b1 f)), (.int (o_ex (2 : Int32) (3 : Int32) (0 : Int32) b0 b1 f)), (.int (o_ex (3 : Int32) (3 : Int32) (0 : Int32) b0 b1 f)), (.int (o_ex (4 : Int32) (3 : Int32) (0 : Int32) b0 b1 f)), (.int (o_ex (5 : Int32) (3 : Int32) (0 : Int32) b0 b1 f))] (.int (0 : Int32))) := by
  refine Does.of (plainFor_of_name o_pn1) ?_
  intro p e s m below meth c T0 hx hby hml hown hnm hret hlk hZ X0 e0
  have hown : s.vm.findClass "com/example/vigilant_card/vigilantcard/Hex" = some m.cls := hown
  have hml : c.maxLocals = 8 := hml
  have hret : meth.sig.returnType = some .int := hret
  refine o_entry (o_ef5 m a1 a2) ?_
  have N0 := Fr.nil n0
  refine o_iloadN X0 hx (hb hby d_prog_43_method_3_code_0) (v := (3 : Int32)) rfl (n := 1) rfl ?_
  refine o_istoreN X0 hx (hb hby d_prog_43_method_3_code_1) (Ls' := #[.val (.ref a1), .val (.ref a2), .val (.int (3 : Int32)), .val (.int (3 : Int32)), .unset, .unset, .unset, .unset]) rfl (n := 2) rfl ?_
  refine o_aloadN X0 hx (hb hby d_prog_43_method_3_code_2) (v := (.ref a1)) rfl rfl (n := 3) rfl ?_
  refine o_astore X0 hx (hb hby d_prog_43_method_3_code_3) rfl (Ls' := #[.val (.ref a1), .val (.ref a2), .val (.int (3 : Int32)), .val (.int (3 : Int32)), .val (.ref a1), .unset, .unset, .unset]) rfl (n := 5) rfl ?_
  refine o_aload X0 hx (hb hby d_prog_43_method_3_code_5) (v := (.ref a1)) rfl rfl (n := 7) rfl ?_
  refine o_arraylength X0 hx hZ e0 pV_a1 (hb hby d_prog_43_method_3_code_7) (n := 8) rfl ?_
  refine o_istore X0 hx (hb hby d_prog_43_method_3_code_8) (Ls' := #[.val (.ref a1), .val (.ref a2), .val (.int (3 : Int32)), .val (.int (3 : Int32)), .val (.ref a1), .val (.int (0 : Int32)), .unset, .unset]) rfl (n := 10) rfl ?_
  refine o_iconst X0 hx (hb hby d_prog_43_method_3_code_10) (v := (0 : Int32)) rfl (n := 11) rfl ?_
  refine o_istore X0 hx (hb hby d_prog_43_method_3_code_11) (Ls' := #[.val (.ref a1), .val (.ref a2), .val (.int (3 : Int32)), .val (.int (3 : Int32)), .val (.ref a1), .val (.int (0 : Int32)), .val (.int (0 : Int32)), .unset]) rfl (n := 13) rfl ?_
  refine o_iload X0 hx (hb hby d_prog_43_method_3_code_13) (v := (0 : Int32)) rfl (n := 15) rfl ?_
  refine o_iload X0 hx (hb hby d_prog_43_method_3_code_15) (v := (0 : Int32)) rfl (n := 17) rfl ?_
  refine o_icmpY X0 hx (hb hby d_prog_43_method_3_code_17) (XT.ii_ge_t (by decide)) (by decide) (n := 65) (by decide) ?_
  refine o_iloadN X0 hx (hb hby d_prog_43_method_3_code_65) (v := (3 : Int32)) rfl (n := 66) rfl ?_
  exact o_ireturn X0 hx hret hlk (hb hby d_prog_43_method_3_code_66) (by decide) (by decide) e0 ⟨(by decide), N0, (Keep.refl h0 [a2]), pV_a2⟩
theorem o_ef6 (m : MethodId) (a1 : Addr) (a2 : Addr) : entryFrame m #[(.ref a1), (.ref a2), (.int (4 : Int32))] 8 = mkF m 0 #[.val (.ref a1), .val (.ref a2), .val (.int (4 : Int32)), .unset, .unset, .unset, .unset, .unset] [] := by first | (simp [entryFrame, mkF, argsToLocals, Value.category]; done) | rfl
set_option maxRecDepth 65536 in
set_option maxHeartbeats 40000000 in
theorem c_format_0_4 (l : Launch) (Z : State) (a0 : Array Value) (hw : ∀ d ∈ tables_1, d.before a0 Z = true) (a1 : Addr) (k1 : ClassId) (a2 : Addr) (k2 : ClassId) (d0 : Addr) (k3 : ClassId) (b0 : Int32) (b1 : Int32) (f : Int32) (h0 : Heap) (n0 : Nat) (Z0 : n0 ≤ h0.size) (pg_a2 : n0 ≤ a2) (pV_a1 : Arv Z h0 a1 k1 .byte (0 : Int32) [] (.int (0 : Int32))) (pV_a2 : Arv Z h0 a2 k2 .byte (6 : Int32) [(.int f), (.int f), (.int f), (.int f), (.int f), (.int f)] (.int (0 : Int32))) (pS_UPPER_CASE_DIGITS : Sta Z h0 "com/example/vigilant_card/vigilantcard/Hex" "UPPER_CASE_DIGITS" "[B" (.ref d0)) (pV_d0 : Arv Z h0 d0 k3 .byte (16 : Int32) [(.int (48 : Int32)), (.int (49 : Int32)), (.int (50 : Int32)), (.int (51 : Int32)), (.int (52 : Int32)), (.int (53 : Int32)), (.int (54 : Int32)), (.int (55 : Int32)), (.int (56 : Int32)), (.int (57 : Int32)), (.int (65 : Int32)), (.int (66 : Int32)), (.int (67 : Int32)), (.int (68 : Int32)), (.int (69 : Int32)), (.int (70 : Int32))] (.int (0 : Int32))) (pne_a1_a2 : a1 ≠ a2) (pne_d0_a2 : d0 ≠ a2) :
    Does l Z (⟨"com/example/vigilant_card/vigilantcard/Hex", "format", "([B[BI)I"⟩ : MethodName) prog_43_method_3_code 8 (some .int) [] ({ frames := 0, cells := 0, slots := 0, locals := 0 } : Room) #[(.ref a1), (.ref a2), (.int (4 : Int32))] h0 (fun v h L => v = some (.int ((4 : Int32) + (0 : Int32))) ∧ Fr n0 L ∧ Keep h0 h [a2] ∧ Arv Z h a2 k2 .byte (6 : Int32) [(.int (o_ex (0 : Int32) (4 : Int32) (0 : Int32) b0 b1 f)), (.int (o_ex (1 : Int32) (4 : Int32) (0 : Int32) b0 b1 f)), (.int (o_ex (2 : Int32) (4 : Int32) (0 : Int32) b0 b1 f)), (.int (o_ex (3 : Int32) (4 : Int32) (0 : Int32) b0 b1 f)), (.int (o_ex (4 : Int32) (4 : Int32) (0 : Int32) b0 b1 f)), (.int (o_ex (5 : Int32) (4 : Int32) (0 : Int32) b0 b1 f))] (.int (0 : Int32))) := by
  refine Does.of (plainFor_of_name o_pn1) ?_
  intro p e s m below meth c T0 hx hby hml hown hnm hret hlk hZ X0 e0
  have hown : s.vm.findClass "com/example/vigilant_card/vigilantcard/Hex" = some m.cls := hown
  have hml : c.maxLocals = 8 := hml
  have hret : meth.sig.returnType = some .int := hret
  refine o_entry (o_ef6 m a1 a2) ?_
  have N0 := Fr.nil n0
  refine o_iloadN X0 hx (hb hby d_prog_43_method_3_code_0) (v := (4 : Int32)) rfl (n := 1) rfl ?_
  refine o_istoreN X0 hx (hb hby d_prog_43_method_3_code_1) (Ls' := #[.val (.ref a1), .val (.ref a2), .val (.int (4 : Int32)), .val (.int (4 : Int32)), .unset, .unset, .unset, .unset]) rfl (n := 2) rfl ?_
  refine o_aloadN X0 hx (hb hby d_prog_43_method_3_code_2) (v := (.ref a1)) rfl rfl (n := 3) rfl ?_
  refine o_astore X0 hx (hb hby d_prog_43_method_3_code_3) rfl (Ls' := #[.val (.ref a1), .val (.ref a2), .val (.int (4 : Int32)), .val (.int (4 : Int32)), .val (.ref a1), .unset, .unset, .unset]) rfl (n := 5) rfl ?_
  refine o_aload X0 hx (hb hby d_prog_43_method_3_code_5) (v := (.ref a1)) rfl rfl (n := 7) rfl ?_
  refine o_arraylength X0 hx hZ e0 pV_a1 (hb hby d_prog_43_method_3_code_7) (n := 8) rfl ?_
  refine o_istore X0 hx (hb hby d_prog_43_method_3_code_8) (Ls' := #[.val (.ref a1), .val (.ref a2), .val (.int (4 : Int32)), .val (.int (4 : Int32)), .val (.ref a1), .val (.int (0 : Int32)), .unset, .unset]) rfl (n := 10) rfl ?_
  refine o_iconst X0 hx (hb hby d_prog_43_method_3_code_10) (v := (0 : Int32)) rfl (n := 11) rfl ?_
  refine o_istore X0 hx (hb hby d_prog_43_method_3_code_11) (Ls' := #[.val (.ref a1), .val (.ref a2), .val (.int (4 : Int32)), .val (.int (4 : Int32)), .val (.ref a1), .val (.int (0 : Int32)), .val (.int (0 : Int32)), .unset]) rfl (n := 13) rfl ?_
  refine o_iload X0 hx (hb hby d_prog_43_method_3_code_13) (v := (0 : Int32)) rfl (n := 15) rfl ?_
  refine o_iload X0 hx (hb hby d_prog_43_method_3_code_15) (v := (0 : Int32)) rfl (n := 17) rfl ?_
  refine o_icmpY X0 hx (hb hby d_prog_43_method_3_code_17) (XT.ii_ge_t (by decide)) (by decide) (n := 65) (by decide) ?_
  refine o_iloadN X0 hx (hb hby d_prog_43_method_3_code_65) (v := (4 : Int32)) rfl (n := 66) rfl ?_
  exact o_ireturn X0 hx hret hlk (hb hby d_prog_43_method_3_code_66) (by decide) (by decide) e0 ⟨(by decide), N0, (Keep.refl h0 [a2]), pV_a2⟩
theorem o_ef7 (m : MethodId) (a1 : Addr) (a2 : Addr) : entryFrame m #[(.ref a1), (.ref a2), (.int (5 : Int32))] 8 = mkF m 0 #[.val (.ref a1), .val (.ref a2), .val (.int (5 : Int32)), .unset, .unset, .unset, .unset, .unset] [] := by first | (simp [entryFrame, mkF, argsToLocals, Value.category]; done) | rfl
set_option maxRecDepth 65536 in
set_option maxHeartbeats 40000000 in
theorem c_format_0_5 (l : Launch) (Z : State) (a0 : Array Value) (hw : ∀ d ∈ tables_1, d.before a0 Z = true) (a1 : Addr) (k1 : ClassId) (a2 : Addr) (k2 : ClassId) (d0 : Addr) (k3 : ClassId) (b0 : Int32) (b1 : Int32) (f : Int32) (h0 : Heap) (n0 : Nat) (Z0 : n0 ≤ h0.size) (pg_a2 : n0 ≤ a2) (pV_a1 : Arv Z h0 a1 k1 .byte (0 : Int32) [] (.int (0 : Int32))) (pV_a2 : Arv Z h0 a2 k2 .byte (6 : Int32) [(.int f), (.int f), (.int f), (.int f), (.int f), (.int f)] (.int (0 : Int32))) (pS_UPPER_CASE_DIGITS : Sta Z h0 "com/example/vigilant_card/vigilantcard/Hex" "UPPER_CASE_DIGITS" "[B" (.ref d0)) (pV_d0 : Arv Z h0 d0 k3 .byte (16 : Int32) [(.int (48 : Int32)), (.int (49 : Int32)), (.int (50 : Int32)), (.int (51 : Int32)), (.int (52 : Int32)), (.int (53 : Int32)), (.int (54 : Int32)), (.int (55 : Int32)), (.int (56 : Int32)), (.int (57 : Int32)), (.int (65 : Int32)), (.int (66 : Int32)), (.int (67 : Int32)), (.int (68 : Int32)), (.int (69 : Int32)), (.int (70 : Int32))] (.int (0 : Int32))) (pne_a1_a2 : a1 ≠ a2) (pne_d0_a2 : d0 ≠ a2) :
    Does l Z (⟨"com/example/vigilant_card/vigilantcard/Hex", "format", "([B[BI)I"⟩ : MethodName) prog_43_method_3_code 8 (some .int) [] ({ frames := 0, cells := 0, slots := 0, locals := 0 } : Room) #[(.ref a1), (.ref a2), (.int (5 : Int32))] h0 (fun v h L => v = some (.int ((5 : Int32) + (0 : Int32))) ∧ Fr n0 L ∧ Keep h0 h [a2] ∧ Arv Z h a2 k2 .byte (6 : Int32) [(.int (o_ex (0 : Int32) (5 : Int32) (0 : Int32) b0 b1 f)), (.int (o_ex (1 : Int32) (5 : Int32) (0 : Int32) b0 b1 f)), (.int (o_ex (2 : Int32) (5 : Int32) (0 : Int32) b0 b1 f)), (.int (o_ex (3 : Int32) (5 : Int32) (0 : Int32) b0 b1 f)), (.int (o_ex (4 : Int32) (5 : Int32) (0 : Int32) b0 b1 f)), (.int (o_ex (5 : Int32) (5 : Int32) (0 : Int32) b0 b1 f))] (.int (0 : Int32))) := by
  refine Does.of (plainFor_of_name o_pn1) ?_
  intro p e s m below meth c T0 hx hby hml hown hnm hret hlk hZ X0 e0
  have hown : s.vm.findClass "com/example/vigilant_card/vigilantcard/Hex" = some m.cls := hown
  have hml : c.maxLocals = 8 := hml
  have hret : meth.sig.returnType = some .int := hret
  refine o_entry (o_ef7 m a1 a2) ?_
  have N0 := Fr.nil n0
  refine o_iloadN X0 hx (hb hby d_prog_43_method_3_code_0) (v := (5 : Int32)) rfl (n := 1) rfl ?_
  refine o_istoreN X0 hx (hb hby d_prog_43_method_3_code_1) (Ls' := #[.val (.ref a1), .val (.ref a2), .val (.int (5 : Int32)), .val (.int (5 : Int32)), .unset, .unset, .unset, .unset]) rfl (n := 2) rfl ?_
  refine o_aloadN X0 hx (hb hby d_prog_43_method_3_code_2) (v := (.ref a1)) rfl rfl (n := 3) rfl ?_
  refine o_astore X0 hx (hb hby d_prog_43_method_3_code_3) rfl (Ls' := #[.val (.ref a1), .val (.ref a2), .val (.int (5 : Int32)), .val (.int (5 : Int32)), .val (.ref a1), .unset, .unset, .unset]) rfl (n := 5) rfl ?_
  refine o_aload X0 hx (hb hby d_prog_43_method_3_code_5) (v := (.ref a1)) rfl rfl (n := 7) rfl ?_
  refine o_arraylength X0 hx hZ e0 pV_a1 (hb hby d_prog_43_method_3_code_7) (n := 8) rfl ?_
  refine o_istore X0 hx (hb hby d_prog_43_method_3_code_8) (Ls' := #[.val (.ref a1), .val (.ref a2), .val (.int (5 : Int32)), .val (.int (5 : Int32)), .val (.ref a1), .val (.int (0 : Int32)), .unset, .unset]) rfl (n := 10) rfl ?_
  refine o_iconst X0 hx (hb hby d_prog_43_method_3_code_10) (v := (0 : Int32)) rfl (n := 11) rfl ?_
  refine o_istore X0 hx (hb hby d_prog_43_method_3_code_11) (Ls' := #[.val (.ref a1), .val (.ref a2), .val (.int (5 : Int32)), .val (.int (5 : Int32)), .val (.ref a1), .val (.int (0 : Int32)), .val (.int (0 : Int32)), .unset]) rfl (n := 13) rfl ?_
  refine o_iload X0 hx (hb hby d_prog_43_method_3_code_13) (v := (0 : Int32)) rfl (n := 15) rfl ?_
  refine o_iload X0 hx (hb hby d_prog_43_method_3_code_15) (v := (0 : Int32)) rfl (n := 17) rfl ?_
  refine o_icmpY X0 hx (hb hby d_prog_43_method_3_code_17) (XT.ii_ge_t (by decide)) (by decide) (n := 65) (by decide) ?_
  refine o_iloadN X0 hx (hb hby d_prog_43_method_3_code_65) (v := (5 : Int32)) rfl (n := 66) rfl ?_
  exact o_ireturn X0 hx hret hlk (hb hby d_prog_43_method_3_code_66) (by decide) (by decide) e0 ⟨(by decide), N0, (Keep.refl h0 [a2]), pV_a2⟩
theorem o_ef8 (m : MethodId) (a1 : Addr) (a2 : Addr) : entryFrame m #[(.ref a1), (.ref a2), (.int (6 : Int32))] 8 = mkF m 0 #[.val (.ref a1), .val (.ref a2), .val (.int (6 : Int32)), .unset, .unset, .unset, .unset, .unset] [] := by first | (simp [entryFrame, mkF, argsToLocals, Value.category]; done) | rfl
set_option maxRecDepth 65536 in
set_option maxHeartbeats 40000000 in
theorem c_format_0_6 (l : Launch) (Z : State) (a0 : Array Value) (hw : ∀ d ∈ tables_1, d.before a0 Z = true) (a1 : Addr) (k1 : ClassId) (a2 : Addr) (k2 : ClassId) (d0 : Addr) (k3 : ClassId) (b0 : Int32) (b1 : Int32) (f : Int32) (h0 : Heap) (n0 : Nat) (Z0 : n0 ≤ h0.size) (pg_a2 : n0 ≤ a2) (pV_a1 : Arv Z h0 a1 k1 .byte (0 : Int32) [] (.int (0 : Int32))) (pV_a2 : Arv Z h0 a2 k2 .byte (6 : Int32) [(.int f), (.int f), (.int f), (.int f), (.int f), (.int f)] (.int (0 : Int32))) (pS_UPPER_CASE_DIGITS : Sta Z h0 "com/example/vigilant_card/vigilantcard/Hex" "UPPER_CASE_DIGITS" "[B" (.ref d0)) (pV_d0 : Arv Z h0 d0 k3 .byte (16 : Int32) [(.int (48 : Int32)), (.int (49 : Int32)), (.int (50 : Int32)), (.int (51 : Int32)), (.int (52 : Int32)), (.int (53 : Int32)), (.int (54 : Int32)), (.int (55 : Int32)), (.int (56 : Int32)), (.int (57 : Int32)), (.int (65 : Int32)), (.int (66 : Int32)), (.int (67 : Int32)), (.int (68 : Int32)), (.int (69 : Int32)), (.int (70 : Int32))] (.int (0 : Int32))) (pne_a1_a2 : a1 ≠ a2) (pne_d0_a2 : d0 ≠ a2) :
    Does l Z (⟨"com/example/vigilant_card/vigilantcard/Hex", "format", "([B[BI)I"⟩ : MethodName) prog_43_method_3_code 8 (some .int) [] ({ frames := 0, cells := 0, slots := 0, locals := 0 } : Room) #[(.ref a1), (.ref a2), (.int (6 : Int32))] h0 (fun v h L => v = some (.int ((6 : Int32) + (0 : Int32))) ∧ Fr n0 L ∧ Keep h0 h [a2] ∧ Arv Z h a2 k2 .byte (6 : Int32) [(.int (o_ex (0 : Int32) (6 : Int32) (0 : Int32) b0 b1 f)), (.int (o_ex (1 : Int32) (6 : Int32) (0 : Int32) b0 b1 f)), (.int (o_ex (2 : Int32) (6 : Int32) (0 : Int32) b0 b1 f)), (.int (o_ex (3 : Int32) (6 : Int32) (0 : Int32) b0 b1 f)), (.int (o_ex (4 : Int32) (6 : Int32) (0 : Int32) b0 b1 f)), (.int (o_ex (5 : Int32) (6 : Int32) (0 : Int32) b0 b1 f))] (.int (0 : Int32))) := by
  refine Does.of (plainFor_of_name o_pn1) ?_
  intro p e s m below meth c T0 hx hby hml hown hnm hret hlk hZ X0 e0
  have hown : s.vm.findClass "com/example/vigilant_card/vigilantcard/Hex" = some m.cls := hown
  have hml : c.maxLocals = 8 := hml
  have hret : meth.sig.returnType = some .int := hret
  refine o_entry (o_ef8 m a1 a2) ?_
  have N0 := Fr.nil n0
  refine o_iloadN X0 hx (hb hby d_prog_43_method_3_code_0) (v := (6 : Int32)) rfl (n := 1) rfl ?_
  refine o_istoreN X0 hx (hb hby d_prog_43_method_3_code_1) (Ls' := #[.val (.ref a1), .val (.ref a2), .val (.int (6 : Int32)), .val (.int (6 : Int32)), .unset, .unset, .unset, .unset]) rfl (n := 2) rfl ?_
  refine o_aloadN X0 hx (hb hby d_prog_43_method_3_code_2) (v := (.ref a1)) rfl rfl (n := 3) rfl ?_
  refine o_astore X0 hx (hb hby d_prog_43_method_3_code_3) rfl (Ls' := #[.val (.ref a1), .val (.ref a2), .val (.int (6 : Int32)), .val (.int (6 : Int32)), .val (.ref a1), .unset, .unset, .unset]) rfl (n := 5) rfl ?_
  refine o_aload X0 hx (hb hby d_prog_43_method_3_code_5) (v := (.ref a1)) rfl rfl (n := 7) rfl ?_
  refine o_arraylength X0 hx hZ e0 pV_a1 (hb hby d_prog_43_method_3_code_7) (n := 8) rfl ?_
  refine o_istore X0 hx (hb hby d_prog_43_method_3_code_8) (Ls' := #[.val (.ref a1), .val (.ref a2), .val (.int (6 : Int32)), .val (.int (6 : Int32)), .val (.ref a1), .val (.int (0 : Int32)), .unset, .unset]) rfl (n := 10) rfl ?_
  refine o_iconst X0 hx (hb hby d_prog_43_method_3_code_10) (v := (0 : Int32)) rfl (n := 11) rfl ?_
  refine o_istore X0 hx (hb hby d_prog_43_method_3_code_11) (Ls' := #[.val (.ref a1), .val (.ref a2), .val (.int (6 : Int32)), .val (.int (6 : Int32)), .val (.ref a1), .val (.int (0 : Int32)), .val (.int (0 : Int32)), .unset]) rfl (n := 13) rfl ?_
  refine o_iload X0 hx (hb hby d_prog_43_method_3_code_13) (v := (0 : Int32)) rfl (n := 15) rfl ?_
  refine o_iload X0 hx (hb hby d_prog_43_method_3_code_15) (v := (0 : Int32)) rfl (n := 17) rfl ?_
  refine o_icmpY X0 hx (hb hby d_prog_43_method_3_code_17) (XT.ii_ge_t (by decide)) (by decide) (n := 65) (by decide) ?_
  refine o_iloadN X0 hx (hb hby d_prog_43_method_3_code_65) (v := (6 : Int32)) rfl (n := 66) rfl ?_
  exact o_ireturn X0 hx hret hlk (hb hby d_prog_43_method_3_code_66) (by decide) (by decide) e0 ⟨(by decide), N0, (Keep.refl h0 [a2]), pV_a2⟩
set_option maxRecDepth 65536 in
set_option maxHeartbeats 40000000 in
theorem c_format_0 (l : Launch) (Z : State) (a0 : Array Value) (hw : ∀ d ∈ tables_1, d.before a0 Z = true) (a1 : Addr) (k1 : ClassId) (a2 : Addr) (k2 : ClassId) (d0 : Addr) (k3 : ClassId) (b0 : Int32) (b1 : Int32) (f : Int32) (off : Int32) (h0 : Heap) (n0 : Nat) (Z0 : n0 ≤ h0.size) (pg_a2 : n0 ≤ a2) (pV_a1 : Arv Z h0 a1 k1 .byte (0 : Int32) [] (.int (0 : Int32))) (pV_a2 : Arv Z h0 a2 k2 .byte (6 : Int32) [(.int f), (.int f), (.int f), (.int f), (.int f), (.int f)] (.int (0 : Int32))) (pS_UPPER_CASE_DIGITS : Sta Z h0 "com/example/vigilant_card/vigilantcard/Hex" "UPPER_CASE_DIGITS" "[B" (.ref d0)) (pV_d0 : Arv Z h0 d0 k3 .byte (16 : Int32) [(.int (48 : Int32)), (.int (49 : Int32)), (.int (50 : Int32)), (.int (51 : Int32)), (.int (52 : Int32)), (.int (53 : Int32)), (.int (54 : Int32)), (.int (55 : Int32)), (.int (56 : Int32)), (.int (57 : Int32)), (.int (65 : Int32)), (.int (66 : Int32)), (.int (67 : Int32)), (.int (68 : Int32)), (.int (69 : Int32)), (.int (70 : Int32))] (.int (0 : Int32))) (pne_a1_a2 : a1 ≠ a2) (pne_d0_a2 : d0 ≠ a2) (ho : off = 0 ∨ off = 1 ∨ off = 2 ∨ off = 3 ∨ off = 4 ∨ off = 5 ∨ off = 6) :
    Does l Z (⟨"com/example/vigilant_card/vigilantcard/Hex", "format", "([B[BI)I"⟩ : MethodName) prog_43_method_3_code 8 (some .int) [] ({ frames := 0, cells := 0, slots := 0, locals := 0 } : Room) #[(.ref a1), (.ref a2), (.int off)] h0 (fun v h L => v = some (.int (off + (0 : Int32))) ∧ Fr n0 L ∧ Keep h0 h [a2] ∧ Arv Z h a2 k2 .byte (6 : Int32) [(.int (o_ex (0 : Int32) off (0 : Int32) b0 b1 f)), (.int (o_ex (1 : Int32) off (0 : Int32) b0 b1 f)), (.int (o_ex (2 : Int32) off (0 : Int32) b0 b1 f)), (.int (o_ex (3 : Int32) off (0 : Int32) b0 b1 f)), (.int (o_ex (4 : Int32) off (0 : Int32) b0 b1 f)), (.int (o_ex (5 : Int32) off (0 : Int32) b0 b1 f))] (.int (0 : Int32))) := by
  rcases ho with rfl | rfl | rfl | rfl | rfl | rfl | rfl
  · exact c_format_0_0 l Z a0 hw a1 k1 a2 k2 d0 k3 b0 b1 f h0 n0 Z0 pg_a2 pV_a1 pV_a2 pS_UPPER_CASE_DIGITS pV_d0 pne_a1_a2 pne_d0_a2
  · exact c_format_0_1 l Z a0 hw a1 k1 a2 k2 d0 k3 b0 b1 f h0 n0 Z0 pg_a2 pV_a1 pV_a2 pS_UPPER_CASE_DIGITS pV_d0 pne_a1_a2 pne_d0_a2
  · exact c_format_0_2 l Z a0 hw a1 k1 a2 k2 d0 k3 b0 b1 f h0 n0 Z0 pg_a2 pV_a1 pV_a2 pS_UPPER_CASE_DIGITS pV_d0 pne_a1_a2 pne_d0_a2
  · exact c_format_0_3 l Z a0 hw a1 k1 a2 k2 d0 k3 b0 b1 f h0 n0 Z0 pg_a2 pV_a1 pV_a2 pS_UPPER_CASE_DIGITS pV_d0 pne_a1_a2 pne_d0_a2
  · exact c_format_0_4 l Z a0 hw a1 k1 a2 k2 d0 k3 b0 b1 f h0 n0 Z0 pg_a2 pV_a1 pV_a2 pS_UPPER_CASE_DIGITS pV_d0 pne_a1_a2 pne_d0_a2
  · exact c_format_0_5 l Z a0 hw a1 k1 a2 k2 d0 k3 b0 b1 f h0 n0 Z0 pg_a2 pV_a1 pV_a2 pS_UPPER_CASE_DIGITS pV_d0 pne_a1_a2 pne_d0_a2
  · exact c_format_0_6 l Z a0 hw a1 k1 a2 k2 d0 k3 b0 b1 f h0 n0 Z0 pg_a2 pV_a1 pV_a2 pS_UPPER_CASE_DIGITS pV_d0 pne_a1_a2 pne_d0_a2
theorem d_prog_43_method_3_code_20 : decode prog_43_method_3_code 20 = .ok (.aload 4, 2) := by decide +kernel
theorem d_prog_43_method_3_code_22 : decode prog_43_method_3_code 22 = .ok (.iload 6, 2) := by decide +kernel
theorem d_prog_43_method_3_code_24 : decode prog_43_method_3_code 24 = .ok (.baload, 1) := by decide +kernel
theorem d_prog_43_method_3_code_25 : decode prog_43_method_3_code 25 = .ok (.istore 7, 2) := by decide +kernel
theorem d_prog_43_method_3_code_27 : decode prog_43_method_3_code 27 = .ok (.aload_n 1, 1) := by decide +kernel
theorem d_prog_43_method_3_code_28 : decode prog_43_method_3_code 28 = .ok (.iload_n 3, 1) := by decide +kernel
theorem d_prog_43_method_3_code_29 : decode prog_43_method_3_code 29 = .ok (.iinc 3 1, 3) := by decide +kernel
theorem d_prog_43_method_3_code_32 : decode prog_43_method_3_code 32 = .ok (.getstatic 24, 3) := by decide +kernel
theorem d_prog_43_method_3_code_35 : decode prog_43_method_3_code 35 = .ok (.iload 7, 2) := by decide +kernel
theorem d_prog_43_method_3_code_37 : decode prog_43_method_3_code 37 = .ok (.iconst 4, 1) := by decide +kernel
theorem d_prog_43_method_3_code_38 : decode prog_43_method_3_code 38 = .ok (.ishr, 1) := by decide +kernel
theorem d_prog_43_method_3_code_39 : decode prog_43_method_3_code 39 = .ok (.bipush 15, 2) := by decide +kernel
theorem d_prog_43_method_3_code_41 : decode prog_43_method_3_code 41 = .ok (.iand, 1) := by decide +kernel
theorem d_prog_43_method_3_code_42 : decode prog_43_method_3_code 42 = .ok (.baload, 1) := by decide +kernel
theorem d_prog_43_method_3_code_43 : decode prog_43_method_3_code 43 = .ok (.bastore, 1) := by decide +kernel
theorem d_prog_43_method_3_code_44 : decode prog_43_method_3_code 44 = .ok (.aload_n 1, 1) := by decide +kernel
theorem d_prog_43_method_3_code_45 : decode prog_43_method_3_code 45 = .ok (.iload_n 3, 1) := by decide +kernel
theorem d_prog_43_method_3_code_46 : decode prog_43_method_3_code 46 = .ok (.iinc 3 1, 3) := by decide +kernel
theorem d_prog_43_method_3_code_49 : decode prog_43_method_3_code 49 = .ok (.getstatic 24, 3) := by decide +kernel
theorem d_prog_43_method_3_code_52 : decode prog_43_method_3_code 52 = .ok (.iload 7, 2) := by decide +kernel
theorem d_prog_43_method_3_code_54 : decode prog_43_method_3_code 54 = .ok (.bipush 15, 2) := by decide +kernel
theorem d_prog_43_method_3_code_56 : decode prog_43_method_3_code 56 = .ok (.iand, 1) := by decide +kernel
theorem d_prog_43_method_3_code_57 : decode prog_43_method_3_code 57 = .ok (.baload, 1) := by decide +kernel
theorem d_prog_43_method_3_code_58 : decode prog_43_method_3_code 58 = .ok (.bastore, 1) := by decide +kernel
theorem d_prog_43_method_3_code_59 : decode prog_43_method_3_code 59 = .ok (.iinc 6 1, 3) := by decide +kernel
theorem d_prog_43_method_3_code_62 : decode prog_43_method_3_code 62 = .ok (.goto (-49), 3) := by decide +kernel
theorem o_ef9 (m : MethodId) (a1 : Addr) (a2 : Addr) : entryFrame m #[(.ref a1), (.ref a2), (.int (0 : Int32))] 8 = mkF m 0 #[.val (.ref a1), .val (.ref a2), .val (.int (0 : Int32)), .unset, .unset, .unset, .unset, .unset] [] := by first | (simp [entryFrame, mkF, argsToLocals, Value.category]; done) | rfl
set_option maxRecDepth 65536 in
set_option maxHeartbeats 40000000 in
theorem c_format_1_0 (l : Launch) (Z : State) (a0 : Array Value) (hw : ∀ d ∈ tables_1, d.before a0 Z = true) (a1 : Addr) (k1 : ClassId) (a2 : Addr) (k2 : ClassId) (d0 : Addr) (k3 : ClassId) (b0 : Int32) (b1 : Int32) (f : Int32) (h0 : Heap) (n0 : Nat) (Z0 : n0 ≤ h0.size) (pg_a2 : n0 ≤ a2) (pV_a1 : Arv Z h0 a1 k1 .byte (1 : Int32) [(.int b0)] (.int (0 : Int32))) (pV_a2 : Arv Z h0 a2 k2 .byte (6 : Int32) [(.int f), (.int f), (.int f), (.int f), (.int f), (.int f)] (.int (0 : Int32))) (pS_UPPER_CASE_DIGITS : Sta Z h0 "com/example/vigilant_card/vigilantcard/Hex" "UPPER_CASE_DIGITS" "[B" (.ref d0)) (pV_d0 : Arv Z h0 d0 k3 .byte (16 : Int32) [(.int (48 : Int32)), (.int (49 : Int32)), (.int (50 : Int32)), (.int (51 : Int32)), (.int (52 : Int32)), (.int (53 : Int32)), (.int (54 : Int32)), (.int (55 : Int32)), (.int (56 : Int32)), (.int (57 : Int32)), (.int (65 : Int32)), (.int (66 : Int32)), (.int (67 : Int32)), (.int (68 : Int32)), (.int (69 : Int32)), (.int (70 : Int32))] (.int (0 : Int32))) (pne_a1_a2 : a1 ≠ a2) (pne_d0_a2 : d0 ≠ a2) :
    Does l Z (⟨"com/example/vigilant_card/vigilantcard/Hex", "format", "([B[BI)I"⟩ : MethodName) prog_43_method_3_code 8 (some .int) [] ({ frames := 0, cells := 0, slots := 0, locals := 0 } : Room) #[(.ref a1), (.ref a2), (.int (0 : Int32))] h0 (fun v h L => v = some (.int ((0 : Int32) + (2 : Int32))) ∧ Fr n0 L ∧ Keep h0 h [a2] ∧ Arv Z h a2 k2 .byte (6 : Int32) [(.int (o_ex (0 : Int32) (0 : Int32) (1 : Int32) b0 b1 f)), (.int (o_ex (1 : Int32) (0 : Int32) (1 : Int32) b0 b1 f)), (.int (o_ex (2 : Int32) (0 : Int32) (1 : Int32) b0 b1 f)), (.int (o_ex (3 : Int32) (0 : Int32) (1 : Int32) b0 b1 f)), (.int (o_ex (4 : Int32) (0 : Int32) (1 : Int32) b0 b1 f)), (.int (o_ex (5 : Int32) (0 : Int32) (1 : Int32) b0 b1 f))] (.int (0 : Int32))) := by
  refine Does.of (plainFor_of_name o_pn1) ?_
  intro p e s m below meth c T0 hx hby hml hown hnm hret hlk hZ X0 e0
  have hown : s.vm.findClass "com/example/vigilant_card/vigilantcard/Hex" = some m.cls := hown
  have hml : c.maxLocals = 8 := hml
  have hret : meth.sig.returnType = some .int := hret
  refine o_entry (o_ef9 m a1 a2) ?_
  have N0 := Fr.nil n0
  refine o_iloadN X0 hx (hb hby d_prog_43_method_3_code_0) (v := (0 : Int32)) rfl (n := 1) rfl ?_
  refine o_istoreN X0 hx (hb hby d_prog_43_method_3_code_1) (Ls' := #[.val (.ref a1), .val (.ref a2), .val (.int (0 : Int32)), .val (.int (0 : Int32)), .unset, .unset, .unset, .unset]) rfl (n := 2) rfl ?_
  refine o_aloadN X0 hx (hb hby d_prog_43_method_3_code_2) (v := (.ref a1)) rfl rfl (n := 3) rfl ?_
  refine o_astore X0 hx (hb hby d_prog_43_method_3_code_3) rfl (Ls' := #[.val (.ref a1), .val (.ref a2), .val (.int (0 : Int32)), .val (.int (0 : Int32)), .val (.ref a1), .unset, .unset, .unset]) rfl (n := 5) rfl ?_
  refine o_aload X0 hx (hb hby d_prog_43_method_3_code_5) (v := (.ref a1)) rfl rfl (n := 7) rfl ?_
  refine o_arraylength X0 hx hZ e0 pV_a1 (hb hby d_prog_43_method_3_code_7) (n := 8) rfl ?_
  refine o_istore X0 hx (hb hby d_prog_43_method_3_code_8) (Ls' := #[.val (.ref a1), .val (.ref a2), .val (.int (0 : Int32)), .val (.int (0 : Int32)), .val (.ref a1), .val (.int (1 : Int32)), .unset, .unset]) rfl (n := 10) rfl ?_
  refine o_iconst X0 hx (hb hby d_prog_43_method_3_code_10) (v := (0 : Int32)) rfl (n := 11) rfl ?_
  refine o_istore X0 hx (hb hby d_prog_43_method_3_code_11) (Ls' := #[.val (.ref a1), .val (.ref a2), .val (.int (0 : Int32)), .val (.int (0 : Int32)), .val (.ref a1), .val (.int (1 : Int32)), .val (.int (0 : Int32)), .unset]) rfl (n := 13) rfl ?_
  refine o_iload X0 hx (hb hby d_prog_43_method_3_code_13) (v := (0 : Int32)) rfl (n := 15) rfl ?_
  refine o_iload X0 hx (hb hby d_prog_43_method_3_code_15) (v := (1 : Int32)) rfl (n := 17) rfl ?_
  refine o_icmpN X0 hx (hb hby d_prog_43_method_3_code_17) (XT.ii_ge_f (by decide)) (n := 20) rfl ?_
  refine o_aload X0 hx (hb hby d_prog_43_method_3_code_20) (v := (.ref a1)) rfl rfl (n := 22) rfl ?_
  refine o_iload X0 hx (hb hby d_prog_43_method_3_code_22) (v := (0 : Int32)) rfl (n := 24) rfl ?_
  refine o_baload X0 hx hZ e0 pV_a1 (0) (by decide) (by decide) (v := (.int b0)) rfl (hb hby d_prog_43_method_3_code_24) (n := 25) rfl ?_
  refine o_istore X0 hx (hb hby d_prog_43_method_3_code_25) (Ls' := #[.val (.ref a1), .val (.ref a2), .val (.int (0 : Int32)), .val (.int (0 : Int32)), .val (.ref a1), .val (.int (1 : Int32)), .val (.int (0 : Int32)), .val (.int b0)]) rfl (n := 27) rfl ?_
  refine o_aloadN X0 hx (hb hby d_prog_43_method_3_code_27) (v := (.ref a2)) rfl rfl (n := 28) rfl ?_
  refine o_iloadN X0 hx (hb hby d_prog_43_method_3_code_28) (v := (0 : Int32)) rfl (n := 29) rfl ?_
  refine o_iinc X0 hx (hb hby d_prog_43_method_3_code_29) (w := (1 : Int32)) rfl (by decide) (Ls' := #[.val (.ref a1), .val (.ref a2), .val (.int (0 : Int32)), .val (.int (1 : Int32)), .val (.ref a1), .val (.int (1 : Int32)), .val (.int (0 : Int32)), .val (.int b0)]) rfl (n := 32) rfl ?_
  refine o_getstatic X0 hx hZ hown (host := "") (Or.inl (hw _ (List.mem_of_getElem? (i := 10) rfl))) Via.refl e0 pS_UPPER_CASE_DIGITS (hb hby d_prog_43_method_3_code_32) (n := 35) rfl ?_
  intro T1 X1 e1
  refine o_iload X1 hx (hb hby d_prog_43_method_3_code_35) (v := b0) rfl (n := 37) rfl ?_
  refine o_iconst X1 hx (hb hby d_prog_43_method_3_code_37) (v := (4 : Int32)) rfl (n := 38) rfl ?_
  refine o_ishr X1 hx (hb hby d_prog_43_method_3_code_38) (v := (b0 >>> (4 : Int32))) (congrArg (fun q : Int32 => b0 >>> q) (show (4 : Int32) &&& 31 = 4 by decide)) (n := 39) rfl ?_
  refine o_bipush X1 hx (hb hby d_prog_43_method_3_code_39) (v := (15 : Int32)) rfl (n := 41) rfl ?_
  refine o_iand X1 hx (hb hby d_prog_43_method_3_code_41) (v := ((b0 >>> (4 : Int32)) &&& (15 : Int32))) rfl (n := 42) rfl ?_
  refine o_baload X1 hx hZ e1 pV_d0 (((b0 >>> (4 : Int32)) &&& (15 : Int32)).toNatClampNeg) rfl (o_get (b0 >>> (4 : Int32))).1 (v := (.int (o_dg ((b0 >>> (4 : Int32)) &&& (15 : Int32))))) (o_get (b0 >>> (4 : Int32))).2 (hb hby d_prog_43_method_3_code_42) (n := 43) rfl ?_
  refine o_bastore X1 hx hZ e1 pV_a2 (0) (by decide) (by decide) (Nat.le_of_ble_eq_true rfl) (w := (.int (o_ex (0 : Int32) (0 : Int32) (1 : Int32) b0 b1 f))) (congrArg Value.int ((o_hi b0).trans (by first | rfl | (simp [o_ex]; done) | decide))) (vs' := [(.int (o_ex (0 : Int32) (0 : Int32) (1 : Int32) b0 b1 f)), (.int f), (.int f), (.int f), (.int f), (.int f)]) rfl (hb hby d_prog_43_method_3_code_43) (n := 44) rfl ?_
  intro T2 h2 X2 e2 W2 V2
  have f3 := pV_a1.other W2 pne_a1_a2
  have f4 := pS_UPPER_CASE_DIGITS.wr W2
  have f5 := pV_d0.other W2 pne_d0_a2
  have zz2 : n0 ≤ h2.size := Nat.le_trans Z0 (Nat.le_of_eq W2.size.symm)
  have N6 := Fr.snoc X2 N0 pg_a2
  have K7 : Keep h0 h2 [a2] := (Keep.refl h0 [a2]).wr W2 (Or.inl (List.mem_of_getElem? (i := 0) rfl))
  refine o_aloadN X2 hx (hb hby d_prog_43_method_3_code_44) (v := (.ref a2)) rfl rfl (n := 45) rfl ?_
  refine o_iloadN X2 hx (hb hby d_prog_43_method_3_code_45) (v := (1 : Int32)) rfl (n := 46) rfl ?_
  refine o_iinc X2 hx (hb hby d_prog_43_method_3_code_46) (w := (2 : Int32)) rfl (by decide) (Ls' := #[.val (.ref a1), .val (.ref a2), .val (.int (0 : Int32)), .val (.int (2 : Int32)), .val (.ref a1), .val (.int (1 : Int32)), .val (.int (0 : Int32)), .val (.int b0)]) rfl (n := 49) rfl ?_
  refine o_getstatic X2 hx hZ hown (host := "") (Or.inl (hw _ (List.mem_of_getElem? (i := 10) rfl))) Via.refl e2 f4 (hb hby d_prog_43_method_3_code_49) (n := 52) rfl ?_
  intro T8 X8 e8
  refine o_iload X8 hx (hb hby d_prog_43_method_3_code_52) (v := b0) rfl (n := 54) rfl ?_
  refine o_bipush X8 hx (hb hby d_prog_43_method_3_code_54) (v := (15 : Int32)) rfl (n := 56) rfl ?_
  refine o_iand X8 hx (hb hby d_prog_43_method_3_code_56) (v := (b0 &&& (15 : Int32))) rfl (n := 57) rfl ?_
  refine o_baload X8 hx hZ e8 f5 ((b0 &&& (15 : Int32)).toNatClampNeg) rfl (o_get b0).1 (v := (.int (o_dg (b0 &&& (15 : Int32))))) (o_get b0).2 (hb hby d_prog_43_method_3_code_57) (n := 58) rfl ?_
  refine o_bastore X8 hx hZ e8 V2 (1) (by decide) (by decide) (Nat.le_of_ble_eq_true rfl) (w := (.int (o_ex (1 : Int32) (0 : Int32) (1 : Int32) b0 b1 f))) (congrArg Value.int ((o_lo b0).trans (by first | rfl | (simp [o_ex]; done) | decide))) (vs' := [(.int (o_ex (0 : Int32) (0 : Int32) (1 : Int32) b0 b1 f)), (.int (o_ex (1 : Int32) (0 : Int32) (1 : Int32) b0 b1 f)), (.int f), (.int f), (.int f), (.int f)]) rfl (hb hby d_prog_43_method_3_code_58) (n := 59) rfl ?_
  intro T9 h9 X9 e9 W9 V9
  have f10 := f3.other W9 pne_a1_a2
  have f11 := f4.wr W9
  have f12 := f5.other W9 pne_d0_a2
  have zz9 : n0 ≤ h9.size := Nat.le_trans zz2 (Nat.le_of_eq W9.size.symm)
  have N13 := Fr.snoc X9 N6 pg_a2
  have K14 : Keep h0 h9 [a2] := K7.wr W9 (Or.inl (List.mem_of_getElem? (i := 0) rfl))
  refine o_iinc X9 hx (hb hby d_prog_43_method_3_code_59) (w := (1 : Int32)) rfl (by decide) (Ls' := #[.val (.ref a1), .val (.ref a2), .val (.int (0 : Int32)), .val (.int (2 : Int32)), .val (.ref a1), .val (.int (1 : Int32)), .val (.int (1 : Int32)), .val (.int b0)]) rfl (n := 62) rfl ?_
  refine o_goto X9 hx (hb hby d_prog_43_method_3_code_62) (by decide) (n := 13) (by decide) ?_
  refine o_iload X9 hx (hb hby d_prog_43_method_3_code_13) (v := (1 : Int32)) rfl (n := 15) rfl ?_
  refine o_iload X9 hx (hb hby d_prog_43_method_3_code_15) (v := (1 : Int32)) rfl (n := 17) rfl ?_
  refine o_icmpY X9 hx (hb hby d_prog_43_method_3_code_17) (XT.ii_ge_t (by decide)) (by decide) (n := 65) (by decide) ?_
  refine o_iloadN X9 hx (hb hby d_prog_43_method_3_code_65) (v := (2 : Int32)) rfl (n := 66) rfl ?_
  exact o_ireturn X9 hx hret hlk (hb hby d_prog_43_method_3_code_66) (by decide) (by decide) e9 ⟨(by decide), N13, K14, V9⟩
theorem o_ef10 (m : MethodId) (a1 : Addr) (a2 : Addr) : entryFrame m #[(.ref a1), (.ref a2), (.int (1 : Int32))] 8 = mkF m 0 #[.val (.ref a1), .val (.ref a2), .val (.int (1 : Int32)), .unset, .unset, .unset, .unset, .unset] [] := by first | (simp [entryFrame, mkF, argsToLocals, Value.category]; done) | rfl
set_option maxRecDepth 65536 in
set_option maxHeartbeats 40000000 in
theorem c_format_1_1 (l : Launch) (Z : State) (a0 : Array Value) (hw : ∀ d ∈ tables_1, d.before a0 Z = true) (a1 : Addr) (k1 : ClassId) (a2 : Addr) (k2 : ClassId) (d0 : Addr) (k3 : ClassId) (b0 : Int32) (b1 : Int32) (f : Int32) (h0 : Heap) (n0 : Nat) (Z0 : n0 ≤ h0.size) (pg_a2 : n0 ≤ a2) (pV_a1 : Arv Z h0 a1 k1 .byte (1 : Int32) [(.int b0)] (.int (0 : Int32))) (pV_a2 : Arv Z h0 a2 k2 .byte (6 : Int32) [(.int f), (.int f), (.int f), (.int f), (.int f), (.int f)] (.int (0 : Int32))) (pS_UPPER_CASE_DIGITS : Sta Z h0 "com/example/vigilant_card/vigilantcard/Hex" "UPPER_CASE_DIGITS" "[B" (.ref d0)) (pV_d0 : Arv Z h0 d0 k3 .byte (16 : Int32) [(.int (48 : Int32)), (.int (49 : Int32)), (.int (50 : Int32)), (.int (51 : Int32)), (.int (52 : Int32)), (.int (53 : Int32)), (.int (54 : Int32)), (.int (55 : Int32)), (.int (56 : Int32)), (.int (57 : Int32)), (.int (65 : Int32)), (.int (66 : Int32)), (.int (67 : Int32)), (.int (68 : Int32)), (.int (69 : Int32)), (.int (70 : Int32))] (.int (0 : Int32))) (pne_a1_a2 : a1 ≠ a2) (pne_d0_a2 : d0 ≠ a2) :
    Does l Z (⟨"com/example/vigilant_card/vigilantcard/Hex", "format", "([B[BI)I"⟩ : MethodName) prog_43_method_3_code 8 (some .int) [] ({ frames := 0, cells := 0, slots := 0, locals := 0 } : Room) #[(.ref a1), (.ref a2), (.int (1 : Int32))] h0 (fun v h L => v = some (.int ((1 : Int32) + (2 : Int32))) ∧ Fr n0 L ∧ Keep h0 h [a2] ∧ Arv Z h a2 k2 .byte (6 : Int32) [(.int (o_ex (0 : Int32) (1 : Int32) (1 : Int32) b0 b1 f)), (.int (o_ex (1 : Int32) (1 : Int32) (1 : Int32) b0 b1 f)), (.int (o_ex (2 : Int32) (1 : Int32) (1 : Int32) b0 b1 f)), (.int (o_ex (3 : Int32) (1 : Int32) (1 : Int32) b0 b1 f)), (.int (o_ex (4 : Int32) (1 : Int32) (1 : Int32) b0 b1 f)), (.int (o_ex (5 : Int32) (1 : Int32) (1 : Int32) b0 b1 f))] (.int (0 : Int32))) := by
  refine Does.of (plainFor_of_name o_pn1) ?_
  intro p e s m below meth c T0 hx hby hml hown hnm hret hlk hZ X0 e0
  have hown : s.vm.findClass "com/example/vigilant_card/vigilantcard/Hex" = some m.cls := hown
  have hml : c.maxLocals = 8 := hml
  have hret : meth.sig.returnType = some .int := hret
  refine o_entry (o_ef10 m a1 a2) ?_
  have N0 := Fr.nil n0
  refine o_iloadN X0 hx (hb hby d_prog_43_method_3_code_0) (v := (1 : Int32)) rfl (n := 1) rfl ?_
  refine o_istoreN X0 hx (hb hby d_prog_43_method_3_code_1) (Ls' := #[.val (.ref a1), .val (.ref a2), .val (.int (1 : Int32)), .val (.int (1 : Int32)), .unset, .unset, .unset, .unset]) rfl (n := 2) rfl ?_
  refine o_aloadN X0 hx (hb hby d_prog_43_method_3_code_2) (v := (.ref a1)) rfl rfl (n := 3) rfl ?_
  refine o_astore X0 hx (hb hby d_prog_43_method_3_code_3) rfl (Ls' := #[.val (.ref a1), .val (.ref a2), .val (.int (1 : Int32)), .val (.int (1 : Int32)), .val (.ref a1), .unset, .unset, .unset]) rfl (n := 5) rfl ?_
  refine o_aload X0 hx (hb hby d_prog_43_method_3_code_5) (v := (.ref a1)) rfl rfl (n := 7) rfl ?_
  refine o_arraylength X0 hx hZ e0 pV_a1 (hb hby d_prog_43_method_3_code_7) (n := 8) rfl ?_
  refine o_istore X0 hx (hb hby d_prog_43_method_3_code_8) (Ls' := #[.val (.ref a1), .val (.ref a2), .val (.int (1 : Int32)), .val (.int (1 : Int32)), .val (.ref a1), .val (.int (1 : Int32)), .unset, .unset]) rfl (n := 10) rfl ?_
  refine o_iconst X0 hx (hb hby d_prog_43_method_3_code_10) (v := (0 : Int32)) rfl (n := 11) rfl ?_
  refine o_istore X0 hx (hb hby d_prog_43_method_3_code_11) (Ls' := #[.val (.ref a1), .val (.ref a2), .val (.int (1 : Int32)), .val (.int (1 : Int32)), .val (.ref a1), .val (.int (1 : Int32)), .val (.int (0 : Int32)), .unset]) rfl (n := 13) rfl ?_
  refine o_iload X0 hx (hb hby d_prog_43_method_3_code_13) (v := (0 : Int32)) rfl (n := 15) rfl ?_
  refine o_iload X0 hx (hb hby d_prog_43_method_3_code_15) (v := (1 : Int32)) rfl (n := 17) rfl ?_
  refine o_icmpN X0 hx (hb hby d_prog_43_method_3_code_17) (XT.ii_ge_f (by decide)) (n := 20) rfl ?_
  refine o_aload X0 hx (hb hby d_prog_43_method_3_code_20) (v := (.ref a1)) rfl rfl (n := 22) rfl ?_
  refine o_iload X0 hx (hb hby d_prog_43_method_3_code_22) (v := (0 : Int32)) rfl (n := 24) rfl ?_
  refine o_baload X0 hx hZ e0 pV_a1 (0) (by decide) (by decide) (v := (.int b0)) rfl (hb hby d_prog_43_method_3_code_24) (n := 25) rfl ?_
  refine o_istore X0 hx (hb hby d_prog_43_method_3_code_25) (Ls' := #[.val (.ref a1), .val (.ref a2), .val (.int (1 : Int32)), .val (.int (1 : Int32)), .val (.ref a1), .val (.int (1 : Int32)), .val (.int (0 : Int32)), .val (.int b0)]) rfl (n := 27) rfl ?_
  refine o_aloadN X0 hx (hb hby d_prog_43_method_3_code_27) (v := (.ref a2)) rfl rfl (n := 28) rfl ?_
  refine o_iloadN X0 hx (hb hby d_prog_43_method_3_code_28) (v := (1 : Int32)) rfl (n := 29) rfl ?_
  refine o_iinc X0 hx (hb hby d_prog_43_method_3_code_29) (w := (2 : Int32)) rfl (by decide) (Ls' := #[.val (.ref a1), .val (.ref a2), .val (.int (1 : Int32)), .val (.int (2 : Int32)), .val (.ref a1), .val (.int (1 : Int32)), .val (.int (0 : Int32)), .val (.int b0)]) rfl (n := 32) rfl ?_
  refine o_getstatic X0 hx hZ hown (host := "") (Or.inl (hw _ (List.mem_of_getElem? (i := 10) rfl))) Via.refl e0 pS_UPPER_CASE_DIGITS (hb hby d_prog_43_method_3_code_32) (n := 35) rfl ?_
  intro T1 X1 e1
  refine o_iload X1 hx (hb hby d_prog_43_method_3_code_35) (v := b0) rfl (n := 37) rfl ?_
  refine o_iconst X1 hx (hb hby d_prog_43_method_3_code_37) (v := (4 : Int32)) rfl (n := 38) rfl ?_
  refine o_ishr X1 hx (hb hby d_prog_43_method_3_code_38) (v := (b0 >>> (4 : Int32))) (congrArg (fun q : Int32 => b0 >>> q) (show (4 : Int32) &&& 31 = 4 by decide)) (n := 39) rfl ?_
  refine o_bipush X1 hx (hb hby d_prog_43_method_3_code_39) (v := (15 : Int32)) rfl (n := 41) rfl ?_
  refine o_iand X1 hx (hb hby d_prog_43_method_3_code_41) (v := ((b0 >>> (4 : Int32)) &&& (15 : Int32))) rfl (n := 42) rfl ?_
  refine o_baload X1 hx hZ e1 pV_d0 (((b0 >>> (4 : Int32)) &&& (15 : Int32)).toNatClampNeg) rfl (o_get (b0 >>> (4 : Int32))).1 (v := (.int (o_dg ((b0 >>> (4 : Int32)) &&& (15 : Int32))))) (o_get (b0 >>> (4 : Int32))).2 (hb hby d_prog_43_method_3_code_42) (n := 43) rfl ?_
  refine o_bastore X1 hx hZ e1 pV_a2 (1) (by decide) (by decide) (Nat.le_of_ble_eq_true rfl) (w := (.int (o_ex (1 : Int32) (1 : Int32) (1 : Int32) b0 b1 f))) (congrArg Value.int ((o_hi b0).trans (by first | rfl | (simp [o_ex]; done) | decide))) (vs' := [(.int f), (.int (o_ex (1 : Int32) (1 : Int32) (1 : Int32) b0 b1 f)), (.int f), (.int f), (.int f), (.int f)]) rfl (hb hby d_prog_43_method_3_code_43) (n := 44) rfl ?_
  intro T2 h2 X2 e2 W2 V2
  have f3 := pV_a1.other W2 pne_a1_a2
  have f4 := pS_UPPER_CASE_DIGITS.wr W2
  have f5 := pV_d0.other W2 pne_d0_a2
  have zz2 : n0 ≤ h2.size := Nat.le_trans Z0 (Nat.le_of_eq W2.size.symm)
  have N6 := Fr.snoc X2 N0 pg_a2
  have K7 : Keep h0 h2 [a2] := (Keep.refl h0 [a2]).wr W2 (Or.inl (List.mem_of_getElem? (i := 0) rfl))
  refine o_aloadN X2 hx (hb hby d_prog_43_method_3_code_44) (v := (.ref a2)) rfl rfl (n := 45) rfl ?_
  refine o_iloadN X2 hx (hb hby d_prog_43_method_3_code_45) (v := (2 : Int32)) rfl (n := 46) rfl ?_
  refine o_iinc X2 hx (hb hby d_prog_43_method_3_code_46) (w := (3 : Int32)) rfl (by decide) (Ls' := #[.val (.ref a1), .val (.ref a2), .val (.int (1 : Int32)), .val (.int (3 : Int32)), .val (.ref a1), .val (.int (1 : Int32)), .val (.int (0 : Int32)), .val (.int b0)]) rfl (n := 49) rfl ?_
  refine o_getstatic X2 hx hZ hown (host := "") (Or.inl (hw _ (List.mem_of_getElem? (i := 10) rfl))) Via.refl e2 f4 (hb hby d_prog_43_method_3_code_49) (n := 52) rfl ?_
  intro T8 X8 e8
  refine o_iload X8 hx (hb hby d_prog_43_method_3_code_52) (v := b0) rfl (n := 54) rfl ?_
  refine o_bipush X8 hx (hb hby d_prog_43_method_3_code_54) (v := (15 : Int32)) rfl (n := 56) rfl ?_
  refine o_iand X8 hx (hb hby d_prog_43_method_3_code_56) (v := (b0 &&& (15 : Int32))) rfl (n := 57) rfl ?_
  refine o_baload X8 hx hZ e8 f5 ((b0 &&& (15 : Int32)).toNatClampNeg) rfl (o_get b0).1 (v := (.int (o_dg (b0 &&& (15 : Int32))))) (o_get b0).2 (hb hby d_prog_43_method_3_code_57) (n := 58) rfl ?_
  refine o_bastore X8 hx hZ e8 V2 (2) (by decide) (by decide) (Nat.le_of_ble_eq_true rfl) (w := (.int (o_ex (2 : Int32) (1 : Int32) (1 : Int32) b0 b1 f))) (congrArg Value.int ((o_lo b0).trans (by first | rfl | (simp [o_ex]; done) | decide))) (vs' := [(.int f), (.int (o_ex (1 : Int32) (1 : Int32) (1 : Int32) b0 b1 f)), (.int (o_ex (2 : Int32) (1 : Int32) (1 : Int32) b0 b1 f)), (.int f), (.int f), (.int f)]) rfl (hb hby d_prog_43_method_3_code_58) (n := 59) rfl ?_
  intro T9 h9 X9 e9 W9 V9
  have f10 := f3.other W9 pne_a1_a2
  have f11 := f4.wr W9
  have f12 := f5.other W9 pne_d0_a2
  have zz9 : n0 ≤ h9.size := Nat.le_trans zz2 (Nat.le_of_eq W9.size.symm)
  have N13 := Fr.snoc X9 N6 pg_a2
  have K14 : Keep h0 h9 [a2] := K7.wr W9 (Or.inl (List.mem_of_getElem? (i := 0) rfl))
  refine o_iinc X9 hx (hb hby d_prog_43_method_3_code_59) (w := (1 : Int32)) rfl (by decide) (Ls' := #[.val (.ref a1), .val (.ref a2), .val (.int (1 : Int32)), .val (.int (3 : Int32)), .val (.ref a1), .val (.int (1 : Int32)), .val (.int (1 : Int32)), .val (.int b0)]) rfl (n := 62) rfl ?_
  refine o_goto X9 hx (hb hby d_prog_43_method_3_code_62) (by decide) (n := 13) (by decide) ?_
  refine o_iload X9 hx (hb hby d_prog_43_method_3_code_13) (v := (1 : Int32)) rfl (n := 15) rfl ?_
  refine o_iload X9 hx (hb hby d_prog_43_method_3_code_15) (v := (1 : Int32)) rfl (n := 17) rfl ?_
  refine o_icmpY X9 hx (hb hby d_prog_43_method_3_code_17) (XT.ii_ge_t (by decide)) (by decide) (n := 65) (by decide) ?_
  refine o_iloadN X9 hx (hb hby d_prog_43_method_3_code_65) (v := (3 : Int32)) rfl (n := 66) rfl ?_
  exact o_ireturn X9 hx hret hlk (hb hby d_prog_43_method_3_code_66) (by decide) (by decide) e9 ⟨(by decide), N13, K14, V9⟩
theorem o_ef11 (m : MethodId) (a1 : Addr) (a2 : Addr) : entryFrame m #[(.ref a1), (.ref a2), (.int (2 : Int32))] 8 = mkF m 0 #[.val (.ref a1), .val (.ref a2), .val (.int (2 : Int32)), .unset, .unset, .unset, .unset, .unset] [] := by first | (simp [entryFrame, mkF, argsToLocals, Value.category]; done) | rfl
set_option maxRecDepth 65536 in
set_option maxHeartbeats 40000000 in
theorem c_format_1_2 (l : Launch) (Z : State) (a0 : Array Value) (hw : ∀ d ∈ tables_1, d.before a0 Z = true) (a1 : Addr) (k1 : ClassId) (a2 : Addr) (k2 : ClassId) (d0 : Addr) (k3 : ClassId) (b0 : Int32) (b1 : Int32) (f : Int32) (h0 : Heap) (n0 : Nat) (Z0 : n0 ≤ h0.size) (pg_a2 : n0 ≤ a2) (pV_a1 : Arv Z h0 a1 k1 .byte (1 : Int32) [(.int b0)] (.int (0 : Int32))) (pV_a2 : Arv Z h0 a2 k2 .byte (6 : Int32) [(.int f), (.int f), (.int f), (.int f), (.int f), (.int f)] (.int (0 : Int32))) (pS_UPPER_CASE_DIGITS : Sta Z h0 "com/example/vigilant_card/vigilantcard/Hex" "UPPER_CASE_DIGITS" "[B" (.ref d0)) (pV_d0 : Arv Z h0 d0 k3 .byte (16 : Int32) [(.int (48 : Int32)), (.int (49 : Int32)), (.int (50 : Int32)), (.int (51 : Int32)), (.int (52 : Int32)), (.int (53 : Int32)), (.int (54 : Int32)), (.int (55 : Int32)), (.int (56 : Int32)), (.int (57 : Int32)), (.int (65 : Int32)), (.int (66 : Int32)), (.int (67 : Int32)), (.int (68 : Int32)), (.int (69 : Int32)), (.int (70 : Int32))] (.int (0 : Int32))) (pne_a1_a2 : a1 ≠ a2) (pne_d0_a2 : d0 ≠ a2) :
    Does l Z (⟨"com/example/vigilant_card/vigilantcard/Hex", "format", "([B[BI)I"⟩ : MethodName) prog_43_method_3_code 8 (some .int) [] ({ frames := 0, cells := 0, slots := 0, locals := 0 } : Room) #[(.ref a1), (.ref a2), (.int (2 : Int32))] h0 (fun v h L => v = some (.int ((2 : Int32) + (2 : Int32))) ∧ Fr n0 L ∧ Keep h0 h [a2] ∧ Arv Z h a2 k2 .byte (6 : Int32) [(.int (o_ex (0 : Int32) (2 : Int32) (1 : Int32) b0 b1 f)), (.int (o_ex (1 : Int32) (2 : Int32) (1 : Int32) b0 b1 f)), (.int (o_ex (2 : Int32) (2 : Int32) (1 : Int32) b0 b1 f)), (.int (o_ex (3 : Int32) (2 : Int32) (1 : Int32) b0 b1 f)), (.int (o_ex (4 : Int32) (2 : Int32) (1 : Int32) b0 b1 f)), (.int (o_ex (5 : Int32) (2 : Int32) (1 : Int32) b0 b1 f))] (.int (0 : Int32))) := by
  refine Does.of (plainFor_of_name o_pn1) ?_
  intro p e s m below meth c T0 hx hby hml hown hnm hret hlk hZ X0 e0
  have hown : s.vm.findClass "com/example/vigilant_card/vigilantcard/Hex" = some m.cls := hown
  have hml : c.maxLocals = 8 := hml
  have hret : meth.sig.returnType = some .int := hret
  refine o_entry (o_ef11 m a1 a2) ?_
  have N0 := Fr.nil n0
  refine o_iloadN X0 hx (hb hby d_prog_43_method_3_code_0) (v := (2 : Int32)) rfl (n := 1) rfl ?_
  refine o_istoreN X0 hx (hb hby d_prog_43_method_3_code_1) (Ls' := #[.val (.ref a1), .val (.ref a2), .val (.int (2 : Int32)), .val (.int (2 : Int32)), .unset, .unset, .unset, .unset]) rfl (n := 2) rfl ?_
  refine o_aloadN X0 hx (hb hby d_prog_43_method_3_code_2) (v := (.ref a1)) rfl rfl (n := 3) rfl ?_
  refine o_astore X0 hx (hb hby d_prog_43_method_3_code_3) rfl (Ls' := #[.val (.ref a1), .val (.ref a2), .val (.int (2 : Int32)), .val (.int (2 : Int32)), .val (.ref a1), .unset, .unset, .unset]) rfl (n := 5) rfl ?_
  refine o_aload X0 hx (hb hby d_prog_43_method_3_code_5) (v := (.ref a1)) rfl rfl (n := 7) rfl ?_
  refine o_arraylength X0 hx hZ e0 pV_a1 (hb hby d_prog_43_method_3_code_7) (n := 8) rfl ?_
  refine o_istore X0 hx (hb hby d_prog_43_method_3_code_8) (Ls' := #[.val (.ref a1), .val (.ref a2), .val (.int (2 : Int32)), .val (.int (2 : Int32)), .val (.ref a1), .val (.int (1 : Int32)), .unset, .unset]) rfl (n := 10) rfl ?_
  refine o_iconst X0 hx (hb hby d_prog_43_method_3_code_10) (v := (0 : Int32)) rfl (n := 11) rfl ?_
  refine o_istore X0 hx (hb hby d_prog_43_method_3_code_11) (Ls' := #[.val (.ref a1), .val (.ref a2), .val (.int (2 : Int32)), .val (.int (2 : Int32)), .val (.ref a1), .val (.int (1 : Int32)), .val (.int (0 : Int32)), .unset]) rfl (n := 13) rfl ?_
  refine o_iload X0 hx (hb hby d_prog_43_method_3_code_13) (v := (0 : Int32)) rfl (n := 15) rfl ?_
  refine o_iload X0 hx (hb hby d_prog_43_method_3_code_15) (v := (1 : Int32)) rfl (n := 17) rfl ?_
  refine o_icmpN X0 hx (hb hby d_prog_43_method_3_code_17) (XT.ii_ge_f (by decide)) (n := 20) rfl ?_
  refine o_aload X0 hx (hb hby d_prog_43_method_3_code_20) (v := (.ref a1)) rfl rfl (n := 22) rfl ?_
  refine o_iload X0 hx (hb hby d_prog_43_method_3_code_22) (v := (0 : Int32)) rfl (n := 24) rfl ?_
  refine o_baload X0 hx hZ e0 pV_a1 (0) (by decide) (by decide) (v := (.int b0)) rfl (hb hby d_prog_43_method_3_code_24) (n := 25) rfl ?_
  refine o_istore X0 hx (hb hby d_prog_43_method_3_code_25) (Ls' := #[.val (.ref a1), .val (.ref a2), .val (.int (2 : Int32)), .val (.int (2 : Int32)), .val (.ref a1), .val (.int (1 : Int32)), .val (.int (0 : Int32)), .val (.int b0)]) rfl (n := 27) rfl ?_
  refine o_aloadN X0 hx (hb hby d_prog_43_method_3_code_27) (v := (.ref a2)) rfl rfl (n := 28) rfl ?_
  refine o_iloadN X0 hx (hb hby d_prog_43_method_3_code_28) (v := (2 : Int32)) rfl (n := 29) rfl ?_
  refine o_iinc X0 hx (hb hby d_prog_43_method_3_code_29) (w := (3 : Int32)) rfl (by decide) (Ls' := #[.val (.ref a1), .val (.ref a2), .val (.int (2 : Int32)), .val (.int (3 : Int32)), .val (.ref a1), .val (.int (1 : Int32)), .val (.int (0 : Int32)), .val (.int b0)]) rfl (n := 32) rfl ?_
  refine o_getstatic X0 hx hZ hown (host := "") (Or.inl (hw _ (List.mem_of_getElem? (i := 10) rfl))) Via.refl e0 pS_UPPER_CASE_DIGITS (hb hby d_prog_43_method_3_code_32) (n := 35) rfl ?_
  intro T1 X1 e1
  refine o_iload X1 hx (hb hby d_prog_43_method_3_code_35) (v := b0) rfl (n := 37) rfl ?_
  refine o_iconst X1 hx (hb hby d_prog_43_method_3_code_37) (v := (4 : Int32)) rfl (n := 38) rfl ?_
  refine o_ishr X1 hx (hb hby d_prog_43_method_3_code_38) (v := (b0 >>> (4 : Int32))) (congrArg (fun q : Int32 => b0 >>> q) (show (4 : Int32) &&& 31 = 4 by decide)) (n := 39) rfl ?_
  refine o_bipush X1 hx (hb hby d_prog_43_method_3_code_39) (v := (15 : Int32)) rfl (n := 41) rfl ?_
  refine o_iand X1 hx (hb hby d_prog_43_method_3_code_41) (v := ((b0 >>> (4 : Int32)) &&& (15 : Int32))) rfl (n := 42) rfl ?_
  refine o_baload X1 hx hZ e1 pV_d0 (((b0 >>> (4 : Int32)) &&& (15 : Int32)).toNatClampNeg) rfl (o_get (b0 >>> (4 : Int32))).1 (v := (.int (o_dg ((b0 >>> (4 : Int32)) &&& (15 : Int32))))) (o_get (b0 >>> (4 : Int32))).2 (hb hby d_prog_43_method_3_code_42) (n := 43) rfl ?_
  refine o_bastore X1 hx hZ e1 pV_a2 (2) (by decide) (by decide) (Nat.le_of_ble_eq_true rfl) (w := (.int (o_ex (2 : Int32) (2 : Int32) (1 : Int32) b0 b1 f))) (congrArg Value.int ((o_hi b0).trans (by first | rfl | (simp [o_ex]; done) | decide))) (vs' := [(.int f), (.int f), (.int (o_ex (2 : Int32) (2 : Int32) (1 : Int32) b0 b1 f)), (.int f), (.int f), (.int f)]) rfl (hb hby d_prog_43_method_3_code_43) (n := 44) rfl ?_
  intro T2 h2 X2 e2 W2 V2
  have f3 := pV_a1.other W2 pne_a1_a2
  have f4 := pS_UPPER_CASE_DIGITS.wr W2
  have f5 := pV_d0.other W2 pne_d0_a2
  have zz2 : n0 ≤ h2.size := Nat.le_trans Z0 (Nat.le_of_eq W2.size.symm)
  have N6 := Fr.snoc X2 N0 pg_a2
  have K7 : Keep h0 h2 [a2] := (Keep.refl h0 [a2]).wr W2 (Or.inl (List.mem_of_getElem? (i := 0) rfl))
  refine o_aloadN X2 hx (hb hby d_prog_43_method_3_code_44) (v := (.ref a2)) rfl rfl (n := 45) rfl ?_
  refine o_iloadN X2 hx (hb hby d_prog_43_method_3_code_45) (v := (3 : Int32)) rfl (n := 46) rfl ?_
  refine o_iinc X2 hx (hb hby d_prog_43_method_3_code_46) (w := (4 : Int32)) rfl (by decide) (Ls' := #[.val (.ref a1), .val (.ref a2), .val (.int (2 : Int32)), .val (.int (4 : Int32)), .val (.ref a1), .val (.int (1 : Int32)), .val (.int (0 : Int32)), .val (.int b0)]) rfl (n := 49) rfl ?_
  refine o_getstatic X2 hx hZ hown (host := "") (Or.inl (hw _ (List.mem_of_getElem? (i := 10) rfl))) Via.refl e2 f4 (hb hby d_prog_43_method_3_code_49) (n := 52) rfl ?_
  intro T8 X8 e8
  refine o_iload X8 hx (hb hby d_prog_43_method_3_code_52) (v := b0) rfl (n := 54) rfl ?_
  refine o_bipush X8 hx (hb hby d_prog_43_method_3_code_54) (v := (15 : Int32)) rfl (n := 56) rfl ?_
  refine o_iand X8 hx (hb hby d_prog_43_method_3_code_56) (v := (b0 &&& (15 : Int32))) rfl (n := 57) rfl ?_
  refine o_baload X8 hx hZ e8 f5 ((b0 &&& (15 : Int32)).toNatClampNeg) rfl (o_get b0).1 (v := (.int (o_dg (b0 &&& (15 : Int32))))) (o_get b0).2 (hb hby d_prog_43_method_3_code_57) (n := 58) rfl ?_
  refine o_bastore X8 hx hZ e8 V2 (3) (by decide) (by decide) (Nat.le_of_ble_eq_true rfl) (w := (.int (o_ex (3 : Int32) (2 : Int32) (1 : Int32) b0 b1 f))) (congrArg Value.int ((o_lo b0).trans (by first | rfl | (simp [o_ex]; done) | decide))) (vs' := [(.int f), (.int f), (.int (o_ex (2 : Int32) (2 : Int32) (1 : Int32) b0 b1 f)), (.int (o_ex (3 : Int32) (2 : Int32) (1 : Int32) b0 b1 f)), (.int f), (.int f)]) rfl (hb hby d_prog_43_method_3_code_58) (n := 59) rfl ?_
  intro T9 h9 X9 e9 W9 V9
  have f10 := f3.other W9 pne_a1_a2
  have f11 := f4.wr W9
  have f12 := f5.other W9 pne_d0_a2
  have zz9 : n0 ≤ h9.size := Nat.le_trans zz2 (Nat.le_of_eq W9.size.symm)
  have N13 := Fr.snoc X9 N6 pg_a2
  have K14 : Keep h0 h9 [a2] := K7.wr W9 (Or.inl (List.mem_of_getElem? (i := 0) rfl))
  refine o_iinc X9 hx (hb hby d_prog_43_method_3_code_59) (w := (1 : Int32)) rfl (by decide) (Ls' := #[.val (.ref a1), .val (.ref a2), .val (.int (2 : Int32)), .val (.int (4 : Int32)), .val (.ref a1), .val (.int (1 : Int32)), .val (.int (1 : Int32)), .val (.int b0)]) rfl (n := 62) rfl ?_
  refine o_goto X9 hx (hb hby d_prog_43_method_3_code_62) (by decide) (n := 13) (by decide) ?_
  refine o_iload X9 hx (hb hby d_prog_43_method_3_code_13) (v := (1 : Int32)) rfl (n := 15) rfl ?_
  refine o_iload X9 hx (hb hby d_prog_43_method_3_code_15) (v := (1 : Int32)) rfl (n := 17) rfl ?_
  refine o_icmpY X9 hx (hb hby d_prog_43_method_3_code_17) (XT.ii_ge_t (by decide)) (by decide) (n := 65) (by decide) ?_
  refine o_iloadN X9 hx (hb hby d_prog_43_method_3_code_65) (v := (4 : Int32)) rfl (n := 66) rfl ?_
  exact o_ireturn X9 hx hret hlk (hb hby d_prog_43_method_3_code_66) (by decide) (by decide) e9 ⟨(by decide), N13, K14, V9⟩
theorem o_ef12 (m : MethodId) (a1 : Addr) (a2 : Addr) : entryFrame m #[(.ref a1), (.ref a2), (.int (3 : Int32))] 8 = mkF m 0 #[.val (.ref a1), .val (.ref a2), .val (.int (3 : Int32)), .unset, .unset, .unset, .unset, .unset] [] := by first | (simp [entryFrame, mkF, argsToLocals, Value.category]; done) | rfl
set_option maxRecDepth 65536 in
set_option maxHeartbeats 40000000 in
theorem c_format_1_3 (l : Launch) (Z : State) (a0 : Array Value) (hw : ∀ d ∈ tables_1, d.before a0 Z = true) (a1 : Addr) (k1 : ClassId) (a2 : Addr) (k2 : ClassId) (d0 : Addr) (k3 : ClassId) (b0 : Int32) (b1 : Int32) (f : Int32) (h0 : Heap) (n0 : Nat) (Z0 : n0 ≤ h0.size) (pg_a2 : n0 ≤ a2) (pV_a1 : Arv Z h0 a1 k1 .byte (1 : Int32) [(.int b0)] (.int (0 : Int32))) (pV_a2 : Arv Z h0 a2 k2 .byte (6 : Int32) [(.int f), (.int f), (.int f), (.int f), (.int f), (.int f)] (.int (0 : Int32))) (pS_UPPER_CASE_DIGITS : Sta Z h0 "com/example/vigilant_card/vigilantcard/Hex" "UPPER_CASE_DIGITS" "[B" (.ref d0)) (pV_d0 : Arv Z h0 d0 k3 .byte (16 : Int32) [(.int (48 : Int32)), (.int (49 : Int32)), (.int (50 : Int32)), (.int (51 : Int32)), (.int (52 : Int32)), (.int (53 : Int32)), (.int (54 : Int32)), (.int (55 : Int32)), (.int (56 : Int32)), (.int (57 : Int32)), (.int (65 : Int32)), (.int (66 : Int32)), (.int (67 : Int32)), (.int (68 : Int32)), (.int (69 : Int32)), (.int (70 : Int32))] (.int (0 : Int32))) (pne_a1_a2 : a1 ≠ a2) (pne_d0_a2 : d0 ≠ a2) :
    Does l Z (⟨"com/example/vigilant_card/vigilantcard/Hex", "format", "([B[BI)I"⟩ : MethodName) prog_43_method_3_code 8 (some .int) [] ({ frames := 0, cells := 0, slots := 0, locals := 0 } : Room) #[(.ref a1), (.ref a2), (.int (3 : Int32))] h0 (fun v h L => v = some (.int ((3 : Int32) + (2 : Int32))) ∧ Fr n0 L ∧ Keep h0 h [a2] ∧ Arv Z h a2 k2 .byte (6 : Int32) [(.int (o_ex (0 : Int32) (3 : Int32) (1 : Int32) b0 b1 f)), (.int (o_ex (1 : Int32) (3 : Int32) (1 : Int32) b0 b1 f)), (.int (o_ex (2 : Int32) (3 : Int32) (1 : Int32) b0 b1 f)), (.int (o_ex (3 : Int32) (3 : Int32) (1 : Int32) b0 b1 f)), (.int (o_ex (4 : Int32) (3 : Int32) (1 : Int32) b0 b1 f)), (.int (o_ex (5 : Int32) (3 : Int32) (1 : Int32) b0 b1 f))] (.int (0 : Int32))) := by
  refine Does.of (plainFor_of_name o_pn1) ?_
  intro p e s m below meth c T0 hx hby hml hown hnm hret hlk hZ X0 e0
  have hown : s.vm.findClass "com/example/vigilant_card/vigilantcard/Hex" = some m.cls := hown
  have hml : c.maxLocals = 8 := hml
  have hret : meth.sig.returnType = some .int := hret
  refine o_entry (o_ef12 m a1 a2) ?_
  have N0 := Fr.nil n0
  refine o_iloadN X0 hx (hb hby d_prog_43_method_3_code_0) (v := (3 : Int32)) rfl (n := 1) rfl ?_
  refine o_istoreN X0 hx (hb hby d_prog_43_method_3_code_1) (Ls' := #[.val (.ref a1), .val (.ref a2), .val (.int (3 : Int32)), .val (.int (3 : Int32)), .unset, .unset, .unset, .unset]) rfl (n := 2) rfl ?_
  refine o_aloadN X0 hx (hb hby d_prog_43_method_3_code_2) (v := (.ref a1)) rfl rfl (n := 3) rfl ?_
  refine o_astore X0 hx (hb hby d_prog_43_method_3_code_3) rfl (Ls' := #[.val (.ref a1), .val (.ref a2), .val (.int (3 : Int32)), .val (.int (3 : Int32)), .val (.ref a1), .unset, .unset, .unset]) rfl (n := 5) rfl ?_
  refine o_aload X0 hx (hb hby d_prog_43_method_3_code_5) (v := (.ref a1)) rfl rfl (n := 7) rfl ?_
  refine o_arraylength X0 hx hZ e0 pV_a1 (hb hby d_prog_43_method_3_code_7) (n := 8) rfl ?_
  refine o_istore X0 hx (hb hby d_prog_43_method_3_code_8) (Ls' := #[.val (.ref a1), .val (.ref a2), .val (.int (3 : Int32)), .val (.int (3 : Int32)), .val (.ref a1), .val (.int (1 : Int32)), .unset, .unset]) rfl (n := 10) rfl ?_
  refine o_iconst X0 hx (hb hby d_prog_43_method_3_code_10) (v := (0 : Int32)) rfl (n := 11) rfl ?_
  refine o_istore X0 hx (hb hby d_prog_43_method_3_code_11) (Ls' := #[.val (.ref a1), .val (.ref a2), .val (.int (3 : Int32)), .val (.int (3 : Int32)), .val (.ref a1), .val (.int (1 : Int32)), .val (.int (0 : Int32)), .unset]) rfl (n := 13) rfl ?_
  refine o_iload X0 hx (hb hby d_prog_43_method_3_code_13) (v := (0 : Int32)) rfl (n := 15) rfl ?_
  refine o_iload X0 hx (hb hby d_prog_43_method_3_code_15) (v := (1 : Int32)) rfl (n := 17) rfl ?_
  refine o_icmpN X0 hx (hb hby d_prog_43_method_3_code_17) (XT.ii_ge_f (by decide)) (n := 20) rfl ?_
  refine o_aload X0 hx (hb hby d_prog_43_method_3_code_20) (v := (.ref a1)) rfl rfl (n := 22) rfl ?_
  refine o_iload X0 hx (hb hby d_prog_43_method_3_code_22) (v := (0 : Int32)) rfl (n := 24) rfl ?_
  refine o_baload X0 hx hZ e0 pV_a1 (0) (by decide) (by decide) (v := (.int b0)) rfl (hb hby d_prog_43_method_3_code_24) (n := 25) rfl ?_
  refine o_istore X0 hx (hb hby d_prog_43_method_3_code_25) (Ls' := #[.val (.ref a1), .val (.ref a2), .val (.int (3 : Int32)), .val (.int (3 : Int32)), .val (.ref a1), .val (.int (1 : Int32)), .val (.int (0 : Int32)), .val (.int b0)]) rfl (n := 27) rfl ?_
  refine o_aloadN X0 hx (hb hby d_prog_43_method_3_code_27) (v := (.ref a2)) rfl rfl (n := 28) rfl ?_
  refine o_iloadN X0 hx (hb hby d_prog_43_method_3_code_28) (v := (3 : Int32)) rfl (n := 29) rfl ?_
  refine o_iinc X0 hx (hb hby d_prog_43_method_3_code_29) (w := (4 : Int32)) rfl (by decide) (Ls' := #[.val (.ref a1), .val (.ref a2), .val (.int (3 : Int32)), .val (.int (4 : Int32)), .val (.ref a1), .val (.int (1 : Int32)), .val (.int (0 : Int32)), .val (.int b0)]) rfl (n := 32) rfl ?_
  refine o_getstatic X0 hx hZ hown (host := "") (Or.inl (hw _ (List.mem_of_getElem? (i := 10) rfl))) Via.refl e0 pS_UPPER_CASE_DIGITS (hb hby d_prog_43_method_3_code_32) (n := 35) rfl ?_
  intro T1 X1 e1
  refine o_iload X1 hx (hb hby d_prog_43_method_3_code_35) (v := b0) rfl (n := 37) rfl ?_
  refine o_iconst X1 hx (hb hby d_prog_43_method_3_code_37) (v := (4 : Int32)) rfl (n := 38) rfl ?_
  refine o_ishr X1 hx (hb hby d_prog_43_method_3_code_38) (v := (b0 >>> (4 : Int32))) (congrArg (fun q : Int32 => b0 >>> q) (show (4 : Int32) &&& 31 = 4 by decide)) (n := 39) rfl ?_
  refine o_bipush X1 hx (hb hby d_prog_43_method_3_code_39) (v := (15 : Int32)) rfl (n := 41) rfl ?_
  refine o_iand X1 hx (hb hby d_prog_43_method_3_code_41) (v := ((b0 >>> (4 : Int32)) &&& (15 : Int32))) rfl (n := 42) rfl ?_
  refine o_baload X1 hx hZ e1 pV_d0 (((b0 >>> (4 : Int32)) &&& (15 : Int32)).toNatClampNeg) rfl (o_get (b0 >>> (4 : Int32))).1 (v := (.int (o_dg ((b0 >>> (4 : Int32)) &&& (15 : Int32))))) (o_get (b0 >>> (4 : Int32))).2 (hb hby d_prog_43_method_3_code_42) (n := 43) rfl ?_
  refine o_bastore X1 hx hZ e1 pV_a2 (3) (by decide) (by decide) (Nat.le_of_ble_eq_true rfl) (w := (.int (o_ex (3 : Int32) (3 : Int32) (1 : Int32) b0 b1 f))) (congrArg Value.int ((o_hi b0).trans (by first | rfl | (simp [o_ex]; done) | decide))) (vs' := [(.int f), (.int f), (.int f), (.int (o_ex (3 : Int32) (3 : Int32) (1 : Int32) b0 b1 f)), (.int f), (.int f)]) rfl (hb hby d_prog_43_method_3_code_43) (n := 44) rfl ?_
  intro T2 h2 X2 e2 W2 V2
  have f3 := pV_a1.other W2 pne_a1_a2
  have f4 := pS_UPPER_CASE_DIGITS.wr W2
  have f5 := pV_d0.other W2 pne_d0_a2
  have zz2 : n0 ≤ h2.size := Nat.le_trans Z0 (Nat.le_of_eq W2.size.symm)
  have N6 := Fr.snoc X2 N0 pg_a2
  have K7 : Keep h0 h2 [a2] := (Keep.refl h0 [a2]).wr W2 (Or.inl (List.mem_of_getElem? (i := 0) rfl))
  refine o_aloadN X2 hx (hb hby d_prog_43_method_3_code_44) (v := (.ref a2)) rfl rfl (n := 45) rfl ?_
  refine o_iloadN X2 hx (hb hby d_prog_43_method_3_code_45) (v := (4 : Int32)) rfl (n := 46) rfl ?_
  refine o_iinc X2 hx (hb hby d_prog_43_method_3_code_46) (w := (5 : Int32)) rfl (by decide) (Ls' := #[.val (.ref a1), .val (.ref a2), .val (.int (3 : Int32)), .val (.int (5 : Int32)), .val (.ref a1), .val (.int (1 : Int32)), .val (.int (0 : Int32)), .val (.int b0)]) rfl (n := 49) rfl ?_
  refine o_getstatic X2 hx hZ hown (host := "") (Or.inl (hw _ (List.mem_of_getElem? (i := 10) rfl))) Via.refl e2 f4 (hb hby d_prog_43_method_3_code_49) (n := 52) rfl ?_
  intro T8 X8 e8
  refine o_iload X8 hx (hb hby d_prog_43_method_3_code_52) (v := b0) rfl (n := 54) rfl ?_
  refine o_bipush X8 hx (hb hby d_prog_43_method_3_code_54) (v := (15 : Int32)) rfl (n := 56) rfl ?_
  refine o_iand X8 hx (hb hby d_prog_43_method_3_code_56) (v := (b0 &&& (15 : Int32))) rfl (n := 57) rfl ?_
  refine o_baload X8 hx hZ e8 f5 ((b0 &&& (15 : Int32)).toNatClampNeg) rfl (o_get b0).1 (v := (.int (o_dg (b0 &&& (15 : Int32))))) (o_get b0).2 (hb hby d_prog_43_method_3_code_57) (n := 58) rfl ?_
  refine o_bastore X8 hx hZ e8 V2 (4) (by decide) (by decide) (Nat.le_of_ble_eq_true rfl) (w := (.int (o_ex (4 : Int32) (3 : Int32) (1 : Int32) b0 b1 f))) (congrArg Value.int ((o_lo b0).trans (by first | rfl | (simp [o_ex]; done) | decide))) (vs' := [(.int f), (.int f), (.int f), (.int (o_ex (3 : Int32) (3 : Int32) (1 : Int32) b0 b1 f)), (.int (o_ex (4 : Int32) (3 : Int32) (1 : Int32) b0 b1 f)), (.int f)]) rfl (hb hby d_prog_43_method_3_code_58) (n := 59) rfl ?_
  intro T9 h9 X9 e9 W9 V9
  have f10 := f3.other W9 pne_a1_a2
  have f11 := f4.wr W9
  have f12 := f5.other W9 pne_d0_a2
  have zz9 : n0 ≤ h9.size := Nat.le_trans zz2 (Nat.le_of_eq W9.size.symm)
  have N13 := Fr.snoc X9 N6 pg_a2
  have K14 : Keep h0 h9 [a2] := K7.wr W9 (Or.inl (List.mem_of_getElem? (i := 0) rfl))
  refine o_iinc X9 hx (hb hby d_prog_43_method_3_code_59) (w := (1 : Int32)) rfl (by decide) (Ls' := #[.val (.ref a1), .val (.ref a2), .val (.int (3 : Int32)), .val (.int (5 : Int32)), .val (.ref a1), .val (.int (1 : Int32)), .val (.int (1 : Int32)), .val (.int b0)]) rfl (n := 62) rfl ?_
  refine o_goto X9 hx (hb hby d_prog_43_method_3_code_62) (by decide) (n := 13) (by decide) ?_
  refine o_iload X9 hx (hb hby d_prog_43_method_3_code_13) (v := (1 : Int32)) rfl (n := 15) rfl ?_
  refine o_iload X9 hx (hb hby d_prog_43_method_3_code_15) (v := (1 : Int32)) rfl (n := 17) rfl ?_
  refine o_icmpY X9 hx (hb hby d_prog_43_method_3_code_17) (XT.ii_ge_t (by decide)) (by decide) (n := 65) (by decide) ?_
  refine o_iloadN X9 hx (hb hby d_prog_43_method_3_code_65) (v := (5 : Int32)) rfl (n := 66) rfl ?_
  exact o_ireturn X9 hx hret hlk (hb hby d_prog_43_method_3_code_66) (by decide) (by decide) e9 ⟨(by decide), N13, K14, V9⟩
theorem o_ef13 (m : MethodId) (a1 : Addr) (a2 : Addr) : entryFrame m #[(.ref a1), (.ref a2), (.int (4 : Int32))] 8 = mkF m 0 #[.val (.ref a1), .val (.ref a2), .val (.int (4 : Int32)), .unset, .unset, .unset, .unset, .unset] [] := by first | (simp [entryFrame, mkF, argsToLocals, Value.category]; done) | rfl
set_option maxRecDepth 65536 in
set_option maxHeartbeats 40000000 in
theorem c_format_1_4 (l : Launch) (Z : State) (a0 : Array Value) (hw : ∀ d ∈ tables_1, d.before a0 Z = true) (a1 : Addr) (k1 : ClassId) (a2 : Addr) (k2 : ClassId) (d0 : Addr) (k3 : ClassId) (b0 : Int32) (b1 : Int32) (f : Int32) (h0 : Heap) (n0 : Nat) (Z0 : n0 ≤ h0.size) (pg_a2 : n0 ≤ a2) (pV_a1 : Arv Z h0 a1 k1 .byte (1 : Int32) [(.int b0)] (.int (0 : Int32))) (pV_a2 : Arv Z h0 a2 k2 .byte (6 : Int32) [(.int f), (.int f), (.int f), (.int f), (.int f), (.int f)] (.int (0 : Int32))) (pS_UPPER_CASE_DIGITS : Sta Z h0 "com/example/vigilant_card/vigilantcard/Hex" "UPPER_CASE_DIGITS" "[B" (.ref d0)) (pV_d0 : Arv Z h0 d0 k3 .byte (16 : Int32) [(.int (48 : Int32)), (.int (49 : Int32)), (.int (50 : Int32)), (.int (51 : Int32)), (.int (52 : Int32)), (.int (53 : Int32)), (.int (54 : Int32)), (.int (55 : Int32)), (.int (56 : Int32)), (.int (57 : Int32)), (.int (65 : Int32)), (.int (66 : Int32)), (.int (67 : Int32)), (.int (68 : Int32)), (.int (69 : Int32)), (.int (70 : Int32))] (.int (0 : Int32))) (pne_a1_a2 : a1 ≠ a2) (pne_d0_a2 : d0 ≠ a2) :
    Does l Z (⟨"com/example/vigilant_card/vigilantcard/Hex", "format", "([B[BI)I"⟩ : MethodName) prog_43_method_3_code 8 (some .int) [] ({ frames := 0, cells := 0, slots := 0, locals := 0 } : Room) #[(.ref a1), (.ref a2), (.int (4 : Int32))] h0 (fun v h L => v = some (.int ((4 : Int32) + (2 : Int32))) ∧ Fr n0 L ∧ Keep h0 h [a2] ∧ Arv Z h a2 k2 .byte (6 : Int32) [(.int (o_ex (0 : Int32) (4 : Int32) (1 : Int32) b0 b1 f)), (.int (o_ex (1 : Int32) (4 : Int32) (1 : Int32) b0 b1 f)), (.int (o_ex (2 : Int32) (4 : Int32) (1 : Int32) b0 b1 f)), (.int (o_ex (3 : Int32) (4 : Int32) (1 : Int32) b0 b1 f)), (.int (o_ex (4 : Int32) (4 : Int32) (1 : Int32) b0 b1 f)), (.int (o_ex (5 : Int32) (4 : Int32) (1 : Int32) b0 b1 f))] (.int (0 : Int32))) := by
  refine Does.of (plainFor_of_name o_pn1) ?_
  intro p e s m below meth c T0 hx hby hml hown hnm hret hlk hZ X0 e0
  have hown : s.vm.findClass "com/example/vigilant_card/vigilantcard/Hex" = some m.cls := hown
  have hml : c.maxLocals = 8 := hml
  have hret : meth.sig.returnType = some .int := hret
  refine o_entry (o_ef13 m a1 a2) ?_
  have N0 := Fr.nil n0
  refine o_iloadN X0 hx (hb hby d_prog_43_method_3_code_0) (v := (4 : Int32)) rfl (n := 1) rfl ?_
  refine o_istoreN X0 hx (hb hby d_prog_43_method_3_code_1) (Ls' := #[.val (.ref a1), .val (.ref a2), .val (.int (4 : Int32)), .val (.int (4 : Int32)), .unset, .unset, .unset, .unset]) rfl (n := 2) rfl ?_
  refine o_aloadN X0 hx (hb hby d_prog_43_method_3_code_2) (v := (.ref a1)) rfl rfl (n := 3) rfl ?_
  refine o_astore X0 hx (hb hby d_prog_43_method_3_code_3) rfl (Ls' := #[.val (.ref a1), .val (.ref a2), .val (.int (4 : Int32)), .val (.int (4 : Int32)), .val (.ref a1), .unset, .unset, .unset]) rfl (n := 5) rfl ?_
  refine o_aload X0 hx (hb hby d_prog_43_method_3_code_5) (v := (.ref a1)) rfl rfl (n := 7) rfl ?_
  refine o_arraylength X0 hx hZ e0 pV_a1 (hb hby d_prog_43_method_3_code_7) (n := 8) rfl ?_
  refine o_istore X0 hx (hb hby d_prog_43_method_3_code_8) (Ls' := #[.val (.ref a1), .val (.ref a2), .val (.int (4 : Int32)), .val (.int (4 : Int32)), .val (.ref a1), .val (.int (1 : Int32)), .unset, .unset]) rfl (n := 10) rfl ?_
  refine o_iconst X0 hx (hb hby d_prog_43_method_3_code_10) (v := (0 : Int32)) rfl (n := 11) rfl ?_
  refine o_istore X0 hx (hb hby d_prog_43_method_3_code_11) (Ls' := #[.val (.ref a1), .val (.ref a2), .val (.int (4 : Int32)), .val (.int (4 : Int32)), .val (.ref a1), .val (.int (1 : Int32)), .val (.int (0 : Int32)), .unset]) rfl (n := 13) rfl ?_
  refine o_iload X0 hx (hb hby d_prog_43_method_3_code_13) (v := (0 : Int32)) rfl (n := 15) rfl ?_
  refine o_iload X0 hx (hb hby d_prog_43_method_3_code_15) (v := (1 : Int32)) rfl (n := 17) rfl ?_
  refine o_icmpN X0 hx (hb hby d_prog_43_method_3_code_17) (XT.ii_ge_f (by decide)) (n := 20) rfl ?_
  refine o_aload X0 hx (hb hby d_prog_43_method_3_code_20) (v := (.ref a1)) rfl rfl (n := 22) rfl ?_
  refine o_iload X0 hx (hb hby d_prog_43_method_3_code_22) (v := (0 : Int32)) rfl (n := 24) rfl ?_
  refine o_baload X0 hx hZ e0 pV_a1 (0) (by decide) (by decide) (v := (.int b0)) rfl (hb hby d_prog_43_method_3_code_24) (n := 25) rfl ?_
  refine o_istore X0 hx (hb hby d_prog_43_method_3_code_25) (Ls' := #[.val (.ref a1), .val (.ref a2), .val (.int (4 : Int32)), .val (.int (4 : Int32)), .val (.ref a1), .val (.int (1 : Int32)), .val (.int (0 : Int32)), .val (.int b0)]) rfl (n := 27) rfl ?_
  refine o_aloadN X0 hx (hb hby d_prog_43_method_3_code_27) (v := (.ref a2)) rfl rfl (n := 28) rfl ?_
  refine o_iloadN X0 hx (hb hby d_prog_43_method_3_code_28) (v := (4 : Int32)) rfl (n := 29) rfl ?_
  refine o_iinc X0 hx (hb hby d_prog_43_method_3_code_29) (w := (5 : Int32)) rfl (by decide) (Ls' := #[.val (.ref a1), .val (.ref a2), .val (.int (4 : Int32)), .val (.int (5 : Int32)), .val (.ref a1), .val (.int (1 : Int32)), .val (.int (0 : Int32)), .val (.int b0)]) rfl (n := 32) rfl ?_
  refine o_getstatic X0 hx hZ hown (host := "") (Or.inl (hw _ (List.mem_of_getElem? (i := 10) rfl))) Via.refl e0 pS_UPPER_CASE_DIGITS (hb hby d_prog_43_method_3_code_32) (n := 35) rfl ?_
  intro T1 X1 e1
  refine o_iload X1 hx (hb hby d_prog_43_method_3_code_35) (v := b0) rfl (n := 37) rfl ?_
  refine o_iconst X1 hx (hb hby d_prog_43_method_3_code_37) (v := (4 : Int32)) rfl (n := 38) rfl ?_
  refine o_ishr X1 hx (hb hby d_prog_43_method_3_code_38) (v := (b0 >>> (4 : Int32))) (congrArg (fun q : Int32 => b0 >>> q) (show (4 : Int32) &&& 31 = 4 by decide)) (n := 39) rfl ?_
  refine o_bipush X1 hx (hb hby d_prog_43_method_3_code_39) (v := (15 : Int32)) rfl (n := 41) rfl ?_
  refine o_iand X1 hx (hb hby d_prog_43_method_3_code_41) (v := ((b0 >>> (4 : Int32)) &&& (15 : Int32))) rfl (n := 42) rfl ?_
  refine o_baload X1 hx hZ e1 pV_d0 (((b0 >>> (4 : Int32)) &&& (15 : Int32)).toNatClampNeg) rfl (o_get (b0 >>> (4 : Int32))).1 (v := (.int (o_dg ((b0 >>> (4 : Int32)) &&& (15 : Int32))))) (o_get (b0 >>> (4 : Int32))).2 (hb hby d_prog_43_method_3_code_42) (n := 43) rfl ?_
  refine o_bastore X1 hx hZ e1 pV_a2 (4) (by decide) (by decide) (Nat.le_of_ble_eq_true rfl) (w := (.int (o_ex (4 : Int32) (4 : Int32) (1 : Int32) b0 b1 f))) (congrArg Value.int ((o_hi b0).trans (by first | rfl | (simp [o_ex]; done) | decide))) (vs' := [(.int f), (.int f), (.int f), (.int f), (.int (o_ex (4 : Int32) (4 : Int32) (1 : Int32) b0 b1 f)), (.int f)]) rfl (hb hby d_prog_43_method_3_code_43) (n := 44) rfl ?_
  intro T2 h2 X2 e2 W2 V2
  have f3 := pV_a1.other W2 pne_a1_a2
  have f4 := pS_UPPER_CASE_DIGITS.wr W2
  have f5 := pV_d0.other W2 pne_d0_a2
  have zz2 : n0 ≤ h2.size := Nat.le_trans Z0 (Nat.le_of_eq W2.size.symm)
  have N6 := Fr.snoc X2 N0 pg_a2
  have K7 : Keep h0 h2 [a2] := (Keep.refl h0 [a2]).wr W2 (Or.inl (List.mem_of_getElem? (i := 0) rfl))
  refine o_aloadN X2 hx (hb hby d_prog_43_method_3_code_44) (v := (.ref a2)) rfl rfl (n := 45) rfl ?_
  refine o_iloadN X2 hx (hb hby d_prog_43_method_3_code_45) (v := (5 : Int32)) rfl (n := 46) rfl ?_
  refine o_iinc X2 hx (hb hby d_prog_43_method_3_code_46) (w := (6 : Int32)) rfl (by decide) (Ls' := #[.val (.ref a1), .val (.ref a2), .val (.int (4 : Int32)), .val (.int (6 : Int32)), .val (.ref a1), .val (.int (1 : Int32)), .val (.int (0 : Int32)), .val (.int b0)]) rfl (n := 49) rfl ?_
  refine o_getstatic X2 hx hZ hown (host := "") (Or.inl (hw _ (List.mem_of_getElem? (i := 10) rfl))) Via.refl e2 f4 (hb hby d_prog_43_method_3_code_49) (n := 52) rfl ?_
  intro T8 X8 e8
  refine o_iload X8 hx (hb hby d_prog_43_method_3_code_52) (v := b0) rfl (n := 54) rfl ?_
  refine o_bipush X8 hx (hb hby d_prog_43_method_3_code_54) (v := (15 : Int32)) rfl (n := 56) rfl ?_
  refine o_iand X8 hx (hb hby d_prog_43_method_3_code_56) (v := (b0 &&& (15 : Int32))) rfl (n := 57) rfl ?_
  refine o_baload X8 hx hZ e8 f5 ((b0 &&& (15 : Int32)).toNatClampNeg) rfl (o_get b0).1 (v := (.int (o_dg (b0 &&& (15 : Int32))))) (o_get b0).2 (hb hby d_prog_43_method_3_code_57) (n := 58) rfl ?_
  refine o_bastore X8 hx hZ e8 V2 (5) (by decide) (by decide) (Nat.le_of_ble_eq_true rfl) (w := (.int (o_ex (5 : Int32) (4 : Int32) (1 : Int32) b0 b1 f))) (congrArg Value.int ((o_lo b0).trans (by first | rfl | (simp [o_ex]; done) | decide))) (vs' := [(.int f), (.int f), (.int f), (.int f), (.int (o_ex (4 : Int32) (4 : Int32) (1 : Int32) b0 b1 f)), (.int (o_ex (5 : Int32) (4 : Int32) (1 : Int32) b0 b1 f))]) rfl (hb hby d_prog_43_method_3_code_58) (n := 59) rfl ?_
  intro T9 h9 X9 e9 W9 V9
  have f10 := f3.other W9 pne_a1_a2
  have f11 := f4.wr W9
  have f12 := f5.other W9 pne_d0_a2
  have zz9 : n0 ≤ h9.size := Nat.le_trans zz2 (Nat.le_of_eq W9.size.symm)
  have N13 := Fr.snoc X9 N6 pg_a2
  have K14 : Keep h0 h9 [a2] := K7.wr W9 (Or.inl (List.mem_of_getElem? (i := 0) rfl))
  refine o_iinc X9 hx (hb hby d_prog_43_method_3_code_59) (w := (1 : Int32)) rfl (by decide) (Ls' := #[.val (.ref a1), .val (.ref a2), .val (.int (4 : Int32)), .val (.int (6 : Int32)), .val (.ref a1), .val (.int (1 : Int32)), .val (.int (1 : Int32)), .val (.int b0)]) rfl (n := 62) rfl ?_
  refine o_goto X9 hx (hb hby d_prog_43_method_3_code_62) (by decide) (n := 13) (by decide) ?_
  refine o_iload X9 hx (hb hby d_prog_43_method_3_code_13) (v := (1 : Int32)) rfl (n := 15) rfl ?_
  refine o_iload X9 hx (hb hby d_prog_43_method_3_code_15) (v := (1 : Int32)) rfl (n := 17) rfl ?_
  refine o_icmpY X9 hx (hb hby d_prog_43_method_3_code_17) (XT.ii_ge_t (by decide)) (by decide) (n := 65) (by decide) ?_
  refine o_iloadN X9 hx (hb hby d_prog_43_method_3_code_65) (v := (6 : Int32)) rfl (n := 66) rfl ?_
  exact o_ireturn X9 hx hret hlk (hb hby d_prog_43_method_3_code_66) (by decide) (by decide) e9 ⟨(by decide), N13, K14, V9⟩
set_option maxRecDepth 65536 in
set_option maxHeartbeats 40000000 in
theorem c_format_1 (l : Launch) (Z : State) (a0 : Array Value) (hw : ∀ d ∈ tables_1, d.before a0 Z = true) (a1 : Addr) (k1 : ClassId) (a2 : Addr) (k2 : ClassId) (d0 : Addr) (k3 : ClassId) (b0 : Int32) (b1 : Int32) (f : Int32) (off : Int32) (h0 : Heap) (n0 : Nat) (Z0 : n0 ≤ h0.size) (pg_a2 : n0 ≤ a2) (pV_a1 : Arv Z h0 a1 k1 .byte (1 : Int32) [(.int b0)] (.int (0 : Int32))) (pV_a2 : Arv Z h0 a2 k2 .byte (6 : Int32) [(.int f), (.int f), (.int f), (.int f), (.int f), (.int f)] (.int (0 : Int32))) (pS_UPPER_CASE_DIGITS : Sta Z h0 "com/example/vigilant_card/vigilantcard/Hex" "UPPER_CASE_DIGITS" "[B" (.ref d0)) (pV_d0 : Arv Z h0 d0 k3 .byte (16 : Int32) [(.int (48 : Int32)), (.int (49 : Int32)), (.int (50 : Int32)), (.int (51 : Int32)), (.int (52 : Int32)), (.int (53 : Int32)), (.int (54 : Int32)), (.int (55 : Int32)), (.int (56 : Int32)), (.int (57 : Int32)), (.int (65 : Int32)), (.int (66 : Int32)), (.int (67 : Int32)), (.int (68 : Int32)), (.int (69 : Int32)), (.int (70 : Int32))] (.int (0 : Int32))) (pne_a1_a2 : a1 ≠ a2) (pne_d0_a2 : d0 ≠ a2) (ho : off = 0 ∨ off = 1 ∨ off = 2 ∨ off = 3 ∨ off = 4) :
    Does l Z (⟨"com/example/vigilant_card/vigilantcard/Hex", "format", "([B[BI)I"⟩ : MethodName) prog_43_method_3_code 8 (some .int) [] ({ frames := 0, cells := 0, slots := 0, locals := 0 } : Room) #[(.ref a1), (.ref a2), (.int off)] h0 (fun v h L => v = some (.int (off + (2 : Int32))) ∧ Fr n0 L ∧ Keep h0 h [a2] ∧ Arv Z h a2 k2 .byte (6 : Int32) [(.int (o_ex (0 : Int32) off (1 : Int32) b0 b1 f)), (.int (o_ex (1 : Int32) off (1 : Int32) b0 b1 f)), (.int (o_ex (2 : Int32) off (1 : Int32) b0 b1 f)), (.int (o_ex (3 : Int32) off (1 : Int32) b0 b1 f)), (.int (o_ex (4 : Int32) off (1 : Int32) b0 b1 f)), (.int (o_ex (5 : Int32) off (1 : Int32) b0 b1 f))] (.int (0 : Int32))) := by
  rcases ho with rfl | rfl | rfl | rfl | rfl
  · exact c_format_1_0 l Z a0 hw a1 k1 a2 k2 d0 k3 b0 b1 f h0 n0 Z0 pg_a2 pV_a1 pV_a2 pS_UPPER_CASE_DIGITS pV_d0 pne_a1_a2 pne_d0_a2
  · exact c_format_1_1 l Z a0 hw a1 k1 a2 k2 d0 k3 b0 b1 f h0 n0 Z0 pg_a2 pV_a1 pV_a2 pS_UPPER_CASE_DIGITS pV_d0 pne_a1_a2 pne_d0_a2
  · exact c_format_1_2 l Z a0 hw a1 k1 a2 k2 d0 k3 b0 b1 f h0 n0 Z0 pg_a2 pV_a1 pV_a2 pS_UPPER_CASE_DIGITS pV_d0 pne_a1_a2 pne_d0_a2
  · exact c_format_1_3 l Z a0 hw a1 k1 a2 k2 d0 k3 b0 b1 f h0 n0 Z0 pg_a2 pV_a1 pV_a2 pS_UPPER_CASE_DIGITS pV_d0 pne_a1_a2 pne_d0_a2
  · exact c_format_1_4 l Z a0 hw a1 k1 a2 k2 d0 k3 b0 b1 f h0 n0 Z0 pg_a2 pV_a1 pV_a2 pS_UPPER_CASE_DIGITS pV_d0 pne_a1_a2 pne_d0_a2
theorem o_ef14 (m : MethodId) (a1 : Addr) (a2 : Addr) : entryFrame m #[(.ref a1), (.ref a2), (.int (0 : Int32))] 8 = mkF m 0 #[.val (.ref a1), .val (.ref a2), .val (.int (0 : Int32)), .unset, .unset, .unset, .unset, .unset] [] := by first | (simp [entryFrame, mkF, argsToLocals, Value.category]; done) | rfl
set_option maxRecDepth 65536 in
set_option maxHeartbeats 40000000 in
theorem c_format_2_0 (l : Launch) (Z : State) (a0 : Array Value) (hw : ∀ d ∈ tables_1, d.before a0 Z = true) (a1 : Addr) (k1 : ClassId) (a2 : Addr) (k2 : ClassId) (d0 : Addr) (k3 : ClassId) (b0 : Int32) (b1 : Int32) (f : Int32) (h0 : Heap) (n0 : Nat) (Z0 : n0 ≤ h0.size) (pg_a2 : n0 ≤ a2) (pV_a1 : Arv Z h0 a1 k1 .byte (2 : Int32) [(.int b0), (.int b1)] (.int (0 : Int32))) (pV_a2 : Arv Z h0 a2 k2 .byte (6 : Int32) [(.int f), (.int f), (.int f), (.int f), (.int f), (.int f)] (.int (0 : Int32))) (pS_UPPER_CASE_DIGITS : Sta Z h0 "com/example/vigilant_card/vigilantcard/Hex" "UPPER_CASE_DIGITS" "[B" (.ref d0)) (pV_d0 : Arv Z h0 d0 k3 .byte (16 : Int32) [(.int (48 : Int32)), (.int (49 : Int32)), (.int (50 : Int32)), (.int (51 : Int32)), (.int (52 : Int32)), (.int (53 : Int32)), (.int (54 : Int32)), (.int (55 : Int32)), (.int (56 : Int32)), (.int (57 : Int32)), (.int (65 : Int32)), (.int (66 : Int32)), (.int (67 : Int32)), (.int (68 : Int32)), (.int (69 : Int32)), (.int (70 : Int32))] (.int (0 : Int32))) (pne_a1_a2 : a1 ≠ a2) (pne_d0_a2 : d0 ≠ a2) :
    Does l Z (⟨"com/example/vigilant_card/vigilantcard/Hex", "format", "([B[BI)I"⟩ : MethodName) prog_43_method_3_code 8 (some .int) [] ({ frames := 0, cells := 0, slots := 0, locals := 0 } : Room) #[(.ref a1), (.ref a2), (.int (0 : Int32))] h0 (fun v h L => v = some (.int ((0 : Int32) + (4 : Int32))) ∧ Fr n0 L ∧ Keep h0 h [a2] ∧ Arv Z h a2 k2 .byte (6 : Int32) [(.int (o_ex (0 : Int32) (0 : Int32) (2 : Int32) b0 b1 f)), (.int (o_ex (1 : Int32) (0 : Int32) (2 : Int32) b0 b1 f)), (.int (o_ex (2 : Int32) (0 : Int32) (2 : Int32) b0 b1 f)), (.int (o_ex (3 : Int32) (0 : Int32) (2 : Int32) b0 b1 f)), (.int (o_ex (4 : Int32) (0 : Int32) (2 : Int32) b0 b1 f)), (.int (o_ex (5 : Int32) (0 : Int32) (2 : Int32) b0 b1 f))] (.int (0 : Int32))) := by
  refine Does.of (plainFor_of_name o_pn1) ?_
  intro p e s m below meth c T0 hx hby hml hown hnm hret hlk hZ X0 e0
  have hown : s.vm.findClass "com/example/vigilant_card/vigilantcard/Hex" = some m.cls := hown
  have hml : c.maxLocals = 8 := hml
  have hret : meth.sig.returnType = some .int := hret
  refine o_entry (o_ef14 m a1 a2) ?_
  have N0 := Fr.nil n0
  refine o_iloadN X0 hx (hb hby d_prog_43_method_3_code_0) (v := (0 : Int32)) rfl (n := 1) rfl ?_
  refine o_istoreN X0 hx (hb hby d_prog_43_method_3_code_1) (Ls' := #[.val (.ref a1), .val (.ref a2), .val (.int (0 : Int32)), .val (.int (0 : Int32)), .unset, .unset, .unset, .unset]) rfl (n := 2) rfl ?_
  refine o_aloadN X0 hx (hb hby d_prog_43_method_3_code_2) (v := (.ref a1)) rfl rfl (n := 3) rfl ?_
  refine o_astore X0 hx (hb hby d_prog_43_method_3_code_3) rfl (Ls' := #[.val (.ref a1), .val (.ref a2), .val (.int (0 : Int32)), .val (.int (0 : Int32)), .val (.ref a1), .unset, .unset, .unset]) rfl (n := 5) rfl ?_
  refine o_aload X0 hx (hb hby d_prog_43_method_3_code_5) (v := (.ref a1)) rfl rfl (n := 7) rfl ?_
  refine o_arraylength X0 hx hZ e0 pV_a1 (hb hby d_prog_43_method_3_code_7) (n := 8) rfl ?_
  refine o_istore X0 hx (hb hby d_prog_43_method_3_code_8) (Ls' := #[.val (.ref a1), .val (.ref a2), .val (.int (0 : Int32)), .val (.int (0 : Int32)), .val (.ref a1), .val (.int (2 : Int32)), .unset, .unset]) rfl (n := 10) rfl ?_
  refine o_iconst X0 hx (hb hby d_prog_43_method_3_code_10) (v := (0 : Int32)) rfl (n := 11) rfl ?_
  refine o_istore X0 hx (hb hby d_prog_43_method_3_code_11) (Ls' := #[.val (.ref a1), .val (.ref a2), .val (.int (0 : Int32)), .val (.int (0 : Int32)), .val (.ref a1), .val (.int (2 : Int32)), .val (.int (0 : Int32)), .unset]) rfl (n := 13) rfl ?_
  refine o_iload X0 hx (hb hby d_prog_43_method_3_code_13) (v := (0 : Int32)) rfl (n := 15) rfl ?_
  refine o_iload X0 hx (hb hby d_prog_43_method_3_code_15) (v := (2 : Int32)) rfl (n := 17) rfl ?_
  refine o_icmpN X0 hx (hb hby d_prog_43_method_3_code_17) (XT.ii_ge_f (by decide)) (n := 20) rfl ?_
  refine o_aload X0 hx (hb hby d_prog_43_method_3_code_20) (v := (.ref a1)) rfl rfl (n := 22) rfl ?_
  refine o_iload X0 hx (hb hby d_prog_43_method_3_code_22) (v := (0 : Int32)) rfl (n := 24) rfl ?_
  refine o_baload X0 hx hZ e0 pV_a1 (0) (by decide) (by decide) (v := (.int b0)) rfl (hb hby d_prog_43_method_3_code_24) (n := 25) rfl ?_
  refine o_istore X0 hx (hb hby d_prog_43_method_3_code_25) (Ls' := #[.val (.ref a1), .val (.ref a2), .val (.int (0 : Int32)), .val (.int (0 : Int32)), .val (.ref a1), .val (.int (2 : Int32)), .val (.int (0 : Int32)), .val (.int b0)]) rfl (n := 27) rfl ?_
  refine o_aloadN X0 hx (hb hby d_prog_43_method_3_code_27) (v := (.ref a2)) rfl rfl (n := 28) rfl ?_
  refine o_iloadN X0 hx (hb hby d_prog_43_method_3_code_28) (v := (0 : Int32)) rfl (n := 29) rfl ?_
  refine o_iinc X0 hx (hb hby d_prog_43_method_3_code_29) (w := (1 : Int32)) rfl (by decide) (Ls' := #[.val (.ref a1), .val (.ref a2), .val (.int (0 : Int32)), .val (.int (1 : Int32)), .val (.ref a1), .val (.int (2 : Int32)), .val (.int (0 : Int32)), .val (.int b0)]) rfl (n := 32) rfl ?_
  refine o_getstatic X0 hx hZ hown (host := "") (Or.inl (hw _ (List.mem_of_getElem? (i := 10) rfl))) Via.refl e0 pS_UPPER_CASE_DIGITS (hb hby d_prog_43_method_3_code_32) (n := 35) rfl ?_
  intro T1 X1 e1
  refine o_iload X1 hx (hb hby d_prog_43_method_3_code_35) (v := b0) rfl (n := 37) rfl ?_
  refine o_iconst X1 hx (hb hby d_prog_43_method_3_code_37) (v := (4 : Int32)) rfl (n := 38) rfl ?_
  refine o_ishr X1 hx (hb hby d_prog_43_method_3_code_38) (v := (b0 >>> (4 : Int32))) (congrArg (fun q : Int32 => b0 >>> q) (show (4 : Int32) &&& 31 = 4 by decide)) (n := 39) rfl ?_
  refine o_bipush X1 hx (hb hby d_prog_43_method_3_code_39) (v := (15 : Int32)) rfl (n := 41) rfl ?_
  refine o_iand X1 hx (hb hby d_prog_43_method_3_code_41) (v := ((b0 >>> (4 : Int32)) &&& (15 : Int32))) rfl (n := 42) rfl ?_
  refine o_baload X1 hx hZ e1 pV_d0 (((b0 >>> (4 : Int32)) &&& (15 : Int32)).toNatClampNeg) rfl (o_get (b0 >>> (4 : Int32))).1 (v := (.int (o_dg ((b0 >>> (4 : Int32)) &&& (15 : Int32))))) (o_get (b0 >>> (4 : Int32))).2 (hb hby d_prog_43_method_3_code_42) (n := 43) rfl ?_
  refine o_bastore X1 hx hZ e1 pV_a2 (0) (by decide) (by decide) (Nat.le_of_ble_eq_true rfl) (w := (.int (o_ex (0 : Int32) (0 : Int32) (2 : Int32) b0 b1 f))) (congrArg Value.int ((o_hi b0).trans (by first | rfl | (simp [o_ex]; done) | decide))) (vs' := [(.int (o_ex (0 : Int32) (0 : Int32) (2 : Int32) b0 b1 f)), (.int f), (.int f), (.int f), (.int f), (.int f)]) rfl (hb hby d_prog_43_method_3_code_43) (n := 44) rfl ?_
  intro T2 h2 X2 e2 W2 V2
  have f3 := pV_a1.other W2 pne_a1_a2
  have f4 := pS_UPPER_CASE_DIGITS.wr W2
  have f5 := pV_d0.other W2 pne_d0_a2
  have zz2 : n0 ≤ h2.size := Nat.le_trans Z0 (Nat.le_of_eq W2.size.symm)
  have N6 := Fr.snoc X2 N0 pg_a2
  have K7 : Keep h0 h2 [a2] := (Keep.refl h0 [a2]).wr W2 (Or.inl (List.mem_of_getElem? (i := 0) rfl))
  refine o_aloadN X2 hx (hb hby d_prog_43_method_3_code_44) (v := (.ref a2)) rfl rfl (n := 45) rfl ?_
  refine o_iloadN X2 hx (hb hby d_prog_43_method_3_code_45) (v := (1 : Int32)) rfl (n := 46) rfl ?_
  refine o_iinc X2 hx (hb hby d_prog_43_method_3_code_46) (w := (2 : Int32)) rfl (by decide) (Ls' := #[.val (.ref a1), .val (.ref a2), .val (.int (0 : Int32)), .val (.int (2 : Int32)), .val (.ref a1), .val (.int (2 : Int32)), .val (.int (0 : Int32)), .val (.int b0)]) rfl (n := 49) rfl ?_
  refine o_getstatic X2 hx hZ hown (host := "") (Or.inl (hw _ (List.mem_of_getElem? (i := 10) rfl))) Via.refl e2 f4 (hb hby d_prog_43_method_3_code_49) (n := 52) rfl ?_
  intro T8 X8 e8
  refine o_iload X8 hx (hb hby d_prog_43_method_3_code_52) (v := b0) rfl (n := 54) rfl ?_
  refine o_bipush X8 hx (hb hby d_prog_43_method_3_code_54) (v := (15 : Int32)) rfl (n := 56) rfl ?_
  refine o_iand X8 hx (hb hby d_prog_43_method_3_code_56) (v := (b0 &&& (15 : Int32))) rfl (n := 57) rfl ?_
  refine o_baload X8 hx hZ e8 f5 ((b0 &&& (15 : Int32)).toNatClampNeg) rfl (o_get b0).1 (v := (.int (o_dg (b0 &&& (15 : Int32))))) (o_get b0).2 (hb hby d_prog_43_method_3_code_57) (n := 58) rfl ?_
  refine o_bastore X8 hx hZ e8 V2 (1) (by decide) (by decide) (Nat.le_of_ble_eq_true rfl) (w := (.int (o_ex (1 : Int32) (0 : Int32) (2 : Int32) b0 b1 f))) (congrArg Value.int ((o_lo b0).trans (by first | rfl | (simp [o_ex]; done) | decide))) (vs' := [(.int (o_ex (0 : Int32) (0 : Int32) (2 : Int32) b0 b1 f)), (.int (o_ex (1 : Int32) (0 : Int32) (2 : Int32) b0 b1 f)), (.int f), (.int f), (.int f), (.int f)]) rfl (hb hby d_prog_43_method_3_code_58) (n := 59) rfl ?_
  intro T9 h9 X9 e9 W9 V9
  have f10 := f3.other W9 pne_a1_a2
  have f11 := f4.wr W9
  have f12 := f5.other W9 pne_d0_a2
  have zz9 : n0 ≤ h9.size := Nat.le_trans zz2 (Nat.le_of_eq W9.size.symm)
  have N13 := Fr.snoc X9 N6 pg_a2
  have K14 : Keep h0 h9 [a2] := K7.wr W9 (Or.inl (List.mem_of_getElem? (i := 0) rfl))
  refine o_iinc X9 hx (hb hby d_prog_43_method_3_code_59) (w := (1 : Int32)) rfl (by decide) (Ls' := #[.val (.ref a1), .val (.ref a2), .val (.int (0 : Int32)), .val (.int (2 : Int32)), .val (.ref a1), .val (.int (2 : Int32)), .val (.int (1 : Int32)), .val (.int b0)]) rfl (n := 62) rfl ?_
  refine o_goto X9 hx (hb hby d_prog_43_method_3_code_62) (by decide) (n := 13) (by decide) ?_
  refine o_iload X9 hx (hb hby d_prog_43_method_3_code_13) (v := (1 : Int32)) rfl (n := 15) rfl ?_
  refine o_iload X9 hx (hb hby d_prog_43_method_3_code_15) (v := (2 : Int32)) rfl (n := 17) rfl ?_
  refine o_icmpN X9 hx (hb hby d_prog_43_method_3_code_17) (XT.ii_ge_f (by decide)) (n := 20) rfl ?_
  refine o_aload X9 hx (hb hby d_prog_43_method_3_code_20) (v := (.ref a1)) rfl rfl (n := 22) rfl ?_
  refine o_iload X9 hx (hb hby d_prog_43_method_3_code_22) (v := (1 : Int32)) rfl (n := 24) rfl ?_
  refine o_baload X9 hx hZ e9 f10 (1) (by decide) (by decide) (v := (.int b1)) rfl (hb hby d_prog_43_method_3_code_24) (n := 25) rfl ?_
  refine o_istore X9 hx (hb hby d_prog_43_method_3_code_25) (Ls' := #[.val (.ref a1), .val (.ref a2), .val (.int (0 : Int32)), .val (.int (2 : Int32)), .val (.ref a1), .val (.int (2 : Int32)), .val (.int (1 : Int32)), .val (.int b1)]) rfl (n := 27) rfl ?_
  refine o_aloadN X9 hx (hb hby d_prog_43_method_3_code_27) (v := (.ref a2)) rfl rfl (n := 28) rfl ?_
  refine o_iloadN X9 hx (hb hby d_prog_43_method_3_code_28) (v := (2 : Int32)) rfl (n := 29) rfl ?_
  refine o_iinc X9 hx (hb hby d_prog_43_method_3_code_29) (w := (3 : Int32)) rfl (by decide) (Ls' := #[.val (.ref a1), .val (.ref a2), .val (.int (0 : Int32)), .val (.int (3 : Int32)), .val (.ref a1), .val (.int (2 : Int32)), .val (.int (1 : Int32)), .val (.int b1)]) rfl (n := 32) rfl ?_
  refine o_getstatic X9 hx hZ hown (host := "") (Or.inl (hw _ (List.mem_of_getElem? (i := 10) rfl))) Via.refl e9 f11 (hb hby d_prog_43_method_3_code_32) (n := 35) rfl ?_
  intro T15 X15 e15
  refine o_iload X15 hx (hb hby d_prog_43_method_3_code_35) (v := b1) rfl (n := 37) rfl ?_
  refine o_iconst X15 hx (hb hby d_prog_43_method_3_code_37) (v := (4 : Int32)) rfl (n := 38) rfl ?_
  refine o_ishr X15 hx (hb hby d_prog_43_method_3_code_38) (v := (b1 >>> (4 : Int32))) (congrArg (fun q : Int32 => b1 >>> q) (show (4 : Int32) &&& 31 = 4 by decide)) (n := 39) rfl ?_
  refine o_bipush X15 hx (hb hby d_prog_43_method_3_code_39) (v := (15 : Int32)) rfl (n := 41) rfl ?_
  refine o_iand X15 hx (hb hby d_prog_43_method_3_code_41) (v := ((b1 >>> (4 : Int32)) &&& (15 : Int32))) rfl (n := 42) rfl ?_
  refine o_baload X15 hx hZ e15 f12 (((b1 >>> (4 : Int32)) &&& (15 : Int32)).toNatClampNeg) rfl (o_get (b1 >>> (4 : Int32))).1 (v := (.int (o_dg ((b1 >>> (4 : Int32)) &&& (15 : Int32))))) (o_get (b1 >>> (4 : Int32))).2 (hb hby d_prog_43_method_3_code_42) (n := 43) rfl ?_
  refine o_bastore X15 hx hZ e15 V9 (2) (by decide) (by decide) (Nat.le_of_ble_eq_true rfl) (w := (.int (o_ex (2 : Int32) (0 : Int32) (2 : Int32) b0 b1 f))) (congrArg Value.int ((o_hi b1).trans (by first | rfl | (simp [o_ex]; done) | decide))) (vs' := [(.int (o_ex (0 : Int32) (0 : Int32) (2 : Int32) b0 b1 f)), (.int (o_ex (1 : Int32) (0 : Int32) (2 : Int32) b0 b1 f)), (.int (o_ex (2 : Int32) (0 : Int32) (2 : Int32) b0 b1 f)), (.int f), (.int f), (.int f)]) rfl (hb hby d_prog_43_method_3_code_43) (n := 44) rfl ?_
  intro T16 h16 X16 e16 W16 V16
  have f17 := f10.other W16 pne_a1_a2
  have f18 := f11.wr W16
  have f19 := f12.other W16 pne_d0_a2
  have zz16 : n0 ≤ h16.size := Nat.le_trans zz9 (Nat.le_of_eq W16.size.symm)
  have N20 := Fr.snoc X16 N13 pg_a2
  have K21 : Keep h0 h16 [a2] := K14.wr W16 (Or.inl (List.mem_of_getElem? (i := 0) rfl))
  refine o_aloadN X16 hx (hb hby d_prog_43_method_3_code_44) (v := (.ref a2)) rfl rfl (n := 45) rfl ?_
  refine o_iloadN X16 hx (hb hby d_prog_43_method_3_code_45) (v := (3 : Int32)) rfl (n := 46) rfl ?_
  refine o_iinc X16 hx (hb hby d_prog_43_method_3_code_46) (w := (4 : Int32)) rfl (by decide) (Ls' := #[.val (.ref a1), .val (.ref a2), .val (.int (0 : Int32)), .val (.int (4 : Int32)), .val (.ref a1), .val (.int (2 : Int32)), .val (.int (1 : Int32)), .val (.int b1)]) rfl (n := 49) rfl ?_
  refine o_getstatic X16 hx hZ hown (host := "") (Or.inl (hw _ (List.mem_of_getElem? (i := 10) rfl))) Via.refl e16 f18 (hb hby d_prog_43_method_3_code_49) (n := 52) rfl ?_
  intro T22 X22 e22
  refine o_iload X22 hx (hb hby d_prog_43_method_3_code_52) (v := b1) rfl (n := 54) rfl ?_
  refine o_bipush X22 hx (hb hby d_prog_43_method_3_code_54) (v := (15 : Int32)) rfl (n := 56) rfl ?_
  refine o_iand X22 hx (hb hby d_prog_43_method_3_code_56) (v := (b1 &&& (15 : Int32))) rfl (n := 57) rfl ?_
  refine o_baload X22 hx hZ e22 f19 ((b1 &&& (15 : Int32)).toNatClampNeg) rfl (o_get b1).1 (v := (.int (o_dg (b1 &&& (15 : Int32))))) (o_get b1).2 (hb hby d_prog_43_method_3_code_57) (n := 58) rfl ?_
  refine o_bastore X22 hx hZ e22 V16 (3) (by decide) (by decide) (Nat.le_of_ble_eq_true rfl) (w := (.int (o_ex (3 : Int32) (0 : Int32) (2 : Int32) b0 b1 f))) (congrArg Value.int ((o_lo b1).trans (by first | rfl | (simp [o_ex]; done) | decide))) (vs' := [(.int (o_ex (0 : Int32) (0 : Int32) (2 : Int32) b0 b1 f)), (.int (o_ex (1 : Int32) (0 : Int32) (2 : Int32) b0 b1 f)), (.int (o_ex (2 : Int32) (0 : Int32) (2 : Int32) b0 b1 f)), (.int (o_ex (3 : Int32) (0 : Int32) (2 : Int32) b0 b1 f)), (.int f), (.int f)]) rfl (hb hby d_prog_43_method_3_code_58) (n := 59) rfl ?_
  intro T23 h23 X23 e23 W23 V23
  have f24 := f17.other W23 pne_a1_a2
  have f25 := f18.wr W23
  have f26 := f19.other W23 pne_d0_a2
  have zz23 : n0 ≤ h23.size := Nat.le_trans zz16 (Nat.le_of_eq W23.size.symm)
  have N27 := Fr.snoc X23 N20 pg_a2
  have K28 : Keep h0 h23 [a2] := K21.wr W23 (Or.inl (List.mem_of_getElem? (i := 0) rfl))
  refine o_iinc X23 hx (hb hby d_prog_43_method_3_code_59) (w := (2 : Int32)) rfl (by decide) (Ls' := #[.val (.ref a1), .val (.ref a2), .val (.int (0 : Int32)), .val (.int (4 : Int32)), .val (.ref a1), .val (.int (2 : Int32)), .val (.int (2 : Int32)), .val (.int b1)]) rfl (n := 62) rfl ?_
  refine o_goto X23 hx (hb hby d_prog_43_method_3_code_62) (by decide) (n := 13) (by decide) ?_
  refine o_iload X23 hx (hb hby d_prog_43_method_3_code_13) (v := (2 : Int32)) rfl (n := 15) rfl ?_
  refine o_iload X23 hx (hb hby d_prog_43_method_3_code_15) (v := (2 : Int32)) rfl (n := 17) rfl ?_
  refine o_icmpY X23 hx (hb hby d_prog_43_method_3_code_17) (XT.ii_ge_t (by decide)) (by decide) (n := 65) (by decide) ?_
  refine o_iloadN X23 hx (hb hby d_prog_43_method_3_code_65) (v := (4 : Int32)) rfl (n := 66) rfl ?_
  exact o_ireturn X23 hx hret hlk (hb hby d_prog_43_method_3_code_66) (by decide) (by decide) e23 ⟨(by decide), N27, K28, V23⟩
theorem o_ef15 (m : MethodId) (a1 : Addr) (a2 : Addr) : entryFrame m #[(.ref a1), (.ref a2), (.int (1 : Int32))] 8 = mkF m 0 #[.val (.ref a1), .val (.ref a2), .val (.int (1 : Int32)), .unset, .unset, .unset, .unset, .unset] [] := by first | (simp [entryFrame, mkF, argsToLocals, Value.category]; done) | rfl
set_option maxRecDepth 65536 in
set_option maxHeartbeats 40000000 in
theorem c_format_2_1 (l : Launch) (Z : State) (a0 : Array Value) (hw : ∀ d ∈ tables_1, d.before a0 Z = true) (a1 : Addr) (k1 : ClassId) (a2 : Addr) (k2 : ClassId) (d0 : Addr) (k3 : ClassId) (b0 : Int32) (b1 : Int32) (f : Int32) (h0 : Heap) (n0 : Nat) (Z0 : n0 ≤ h0.size) (pg_a2 : n0 ≤ a2) (pV_a1 : Arv Z h0 a1 k1 .byte (2 : Int32) [(.int b0), (.int b1)] (.int (0 : Int32))) (pV_a2 : Arv Z h0 a2 k2 .byte (6 : Int32) [(.int f), (.int f), (.int f), (.int f), (.int f), (.int f)] (.int (0 : Int32))) (pS_UPPER_CASE_DIGITS : Sta Z h0 "com/example/vigilant_card/vigilantcard/Hex" "UPPER_CASE_DIGITS" "[B" (.ref d0)) (pV_d0 : Arv Z h0 d0 k3 .byte (16 : Int32) [(.int (48 : Int32)), (.int (49 : Int32)), (.int (50 : Int32)), (.int (51 : Int32)), (.int (52 : Int32)), (.int (53 : Int32)), (.int (54 : Int32)), (.int (55 : Int32)), (.int (56 : Int32)), (.int (57 : Int32)), (.int (65 : Int32)), (.int (66 : Int32)), (.int (67 : Int32)), (.int (68 : Int32)), (.int (69 : Int32)), (.int (70 : Int32))] (.int (0 : Int32))) (pne_a1_a2 : a1 ≠ a2) (pne_d0_a2 : d0 ≠ a2) :
    Does l Z (⟨"com/example/vigilant_card/vigilantcard/Hex", "format", "([B[BI)I"⟩ : MethodName) prog_43_method_3_code 8 (some .int) [] ({ frames := 0, cells := 0, slots := 0, locals := 0 } : Room) #[(.ref a1), (.ref a2), (.int (1 : Int32))] h0 (fun v h L => v = some (.int ((1 : Int32) + (4 : Int32))) ∧ Fr n0 L ∧ Keep h0 h [a2] ∧ Arv Z h a2 k2 .byte (6 : Int32) [(.int (o_ex (0 : Int32) (1 : Int32) (2 : Int32) b0 b1 f)), (.int (o_ex (1 : Int32) (1 : Int32) (2 : Int32) b0 b1 f)), (.int (o_ex (2 : Int32) (1 : Int32) (2 : Int32) b0 b1 f)), (.int (o_ex (3 : Int32) (1 : Int32) (2 : Int32) b0 b1 f)), (.int (o_ex (4 : Int32) (1 : Int32) (2 : Int32) b0 b1 f)), (.int (o_ex (5 : Int32) (1 : Int32) (2 : Int32) b0 b1 f))] (.int (0 : Int32))) := by
  refine Does.of (plainFor_of_name o_pn1) ?_
  intro p e s m below meth c T0 hx hby hml hown hnm hret hlk hZ X0 e0
  have hown : s.vm.findClass "com/example/vigilant_card/vigilantcard/Hex" = some m.cls := hown
  have hml : c.maxLocals = 8 := hml
  have hret : meth.sig.returnType = some .int := hret
  refine o_entry (o_ef15 m a1 a2) ?_
  have N0 := Fr.nil n0
  refine o_iloadN X0 hx (hb hby d_prog_43_method_3_code_0) (v := (1 : Int32)) rfl (n := 1) rfl ?_
  refine o_istoreN X0 hx (hb hby d_prog_43_method_3_code_1) (Ls' := #[.val (.ref a1), .val (.ref a2), .val (.int (1 : Int32)), .val (.int (1 : Int32)), .unset, .unset, .unset, .unset]) rfl (n := 2) rfl ?_
  refine o_aloadN X0 hx (hb hby d_prog_43_method_3_code_2) (v := (.ref a1)) rfl rfl (n := 3) rfl ?_
  refine o_astore X0 hx (hb hby d_prog_43_method_3_code_3) rfl (Ls' := #[.val (.ref a1), .val (.ref a2), .val (.int (1 : Int32)), .val (.int (1 : Int32)), .val (.ref a1), .unset, .unset, .unset]) rfl (n := 5) rfl ?_
  refine o_aload X0 hx (hb hby d_prog_43_method_3_code_5) (v := (.ref a1)) rfl rfl (n := 7) rfl ?_
  refine o_arraylength X0 hx hZ e0 pV_a1 (hb hby d_prog_43_method_3_code_7) (n := 8) rfl ?_
  refine o_istore X0 hx (hb hby d_prog_43_method_3_code_8) (Ls' := #[.val (.ref a1), .val (.ref a2), .val (.int (1 : Int32)), .val (.int (1 : Int32)), .val (.ref a1), .val (.int (2 : Int32)), .unset, .unset]) rfl (n := 10) rfl ?_
  refine o_iconst X0 hx (hb hby d_prog_43_method_3_code_10) (v := (0 : Int32)) rfl (n := 11) rfl ?_
  refine o_istore X0 hx (hb hby d_prog_43_method_3_code_11) (Ls' := #[.val (.ref a1), .val (.ref a2), .val (.int (1 : Int32)), .val (.int (1 : Int32)), .val (.ref a1), .val (.int (2 : Int32)), .val (.int (0 : Int32)), .unset]) rfl (n := 13) rfl ?_
  refine o_iload X0 hx (hb hby d_prog_43_method_3_code_13) (v := (0 : Int32)) rfl (n := 15) rfl ?_
  refine o_iload X0 hx (hb hby d_prog_43_method_3_code_15) (v := (2 : Int32)) rfl (n := 17) rfl ?_
  refine o_icmpN X0 hx (hb hby d_prog_43_method_3_code_17) (XT.ii_ge_f (by decide)) (n := 20) rfl ?_
  refine o_aload X0 hx (hb hby d_prog_43_method_3_code_20) (v := (.ref a1)) rfl rfl (n := 22) rfl ?_
  refine o_iload X0 hx (hb hby d_prog_43_method_3_code_22) (v := (0 : Int32)) rfl (n := 24) rfl ?_
  refine o_baload X0 hx hZ e0 pV_a1 (0) (by decide) (by decide) (v := (.int b0)) rfl (hb hby d_prog_43_method_3_code_24) (n := 25) rfl ?_
  refine o_istore X0 hx (hb hby d_prog_43_method_3_code_25) (Ls' := #[.val (.ref a1), .val (.ref a2), .val (.int (1 : Int32)), .val (.int (1 : Int32)), .val (.ref a1), .val (.int (2 : Int32)), .val (.int (0 : Int32)), .val (.int b0)]) rfl (n := 27) rfl ?_
  refine o_aloadN X0 hx (hb hby d_prog_43_method_3_code_27) (v := (.ref a2)) rfl rfl (n := 28) rfl ?_
  refine o_iloadN X0 hx (hb hby d_prog_43_method_3_code_28) (v := (1 : Int32)) rfl (n := 29) rfl ?_
  refine o_iinc X0 hx (hb hby d_prog_43_method_3_code_29) (w := (2 : Int32)) rfl (by decide) (Ls' := #[.val (.ref a1), .val (.ref a2), .val (.int (1 : Int32)), .val (.int (2 : Int32)), .val (.ref a1), .val (.int (2 : Int32)), .val (.int (0 : Int32)), .val (.int b0)]) rfl (n := 32) rfl ?_
  refine o_getstatic X0 hx hZ hown (host := "") (Or.inl (hw _ (List.mem_of_getElem? (i := 10) rfl))) Via.refl e0 pS_UPPER_CASE_DIGITS (hb hby d_prog_43_method_3_code_32) (n := 35) rfl ?_
  intro T1 X1 e1
  refine o_iload X1 hx (hb hby d_prog_43_method_3_code_35) (v := b0) rfl (n := 37) rfl ?_
  refine o_iconst X1 hx (hb hby d_prog_43_method_3_code_37) (v := (4 : Int32)) rfl (n := 38) rfl ?_
  refine o_ishr X1 hx (hb hby d_prog_43_method_3_code_38) (v := (b0 >>> (4 : Int32))) (congrArg (fun q : Int32 => b0 >>> q) (show (4 : Int32) &&& 31 = 4 by decide)) (n := 39) rfl ?_
  refine o_bipush X1 hx (hb hby d_prog_43_method_3_code_39) (v := (15 : Int32)) rfl (n := 41) rfl ?_
  refine o_iand X1 hx (hb hby d_prog_43_method_3_code_41) (v := ((b0 >>> (4 : Int32)) &&& (15 : Int32))) rfl (n := 42) rfl ?_
  refine o_baload X1 hx hZ e1 pV_d0 (((b0 >>> (4 : Int32)) &&& (15 : Int32)).toNatClampNeg) rfl (o_get (b0 >>> (4 : Int32))).1 (v := (.int (o_dg ((b0 >>> (4 : Int32)) &&& (15 : Int32))))) (o_get (b0 >>> (4 : Int32))).2 (hb hby d_prog_43_method_3_code_42) (n := 43) rfl ?_
  refine o_bastore X1 hx hZ e1 pV_a2 (1) (by decide) (by decide) (Nat.le_of_ble_eq_true rfl) (w := (.int (o_ex (1 : Int32) (1 : Int32) (2 : Int32) b0 b1 f))) (congrArg Value.int ((o_hi b0).trans (by first | rfl | (simp [o_ex]; done) | decide))) (vs' := [(.int f), (.int (o_ex (1 : Int32) (1 : Int32) (2 : Int32) b0 b1 f)), (.int f), (.int f), (.int f), (.int f)]) rfl (hb hby d_prog_43_method_3_code_43) (n := 44) rfl ?_
  intro T2 h2 X2 e2 W2 V2
  have f3 := pV_a1.other W2 pne_a1_a2
  have f4 := pS_UPPER_CASE_DIGITS.wr W2
  have f5 := pV_d0.other W2 pne_d0_a2
  have zz2 : n0 ≤ h2.size := Nat.le_trans Z0 (Nat.le_of_eq W2.size.symm)
  have N6 := Fr.snoc X2 N0 pg_a2
  have K7 : Keep h0 h2 [a2] := (Keep.refl h0 [a2]).wr W2 (Or.inl (List.mem_of_getElem? (i := 0) rfl))
  refine o_aloadN X2 hx (hb hby d_prog_43_method_3_code_44) (v := (.ref a2)) rfl rfl (n := 45) rfl ?_
  refine o_iloadN X2 hx (hb hby d_prog_43_method_3_code_45) (v := (2 : Int32)) rfl (n := 46) rfl ?_
  refine o_iinc X2 hx (hb hby d_prog_43_method_3_code_46) (w := (3 : Int32)) rfl (by decide) (Ls' := #[.val (.ref a1), .val (.ref a2), .val (.int (1 : Int32)), .val (.int (3 : Int32)), .val (.ref a1), .val (.int (2 : Int32)), .val (.int (0 : Int32)), .val (.int b0)]) rfl (n := 49) rfl ?_
  refine o_getstatic X2 hx hZ hown (host := "") (Or.inl (hw _ (List.mem_of_getElem? (i := 10) rfl))) Via.refl e2 f4 (hb hby d_prog_43_method_3_code_49) (n := 52) rfl ?_
  intro T8 X8 e8
  refine o_iload X8 hx (hb hby d_prog_43_method_3_code_52) (v := b0) rfl (n := 54) rfl ?_
  refine o_bipush X8 hx (hb hby d_prog_43_method_3_code_54) (v := (15 : Int32)) rfl (n := 56) rfl ?_
  refine o_iand X8 hx (hb hby d_prog_43_method_3_code_56) (v := (b0 &&& (15 : Int32))) rfl (n := 57) rfl ?_
  refine o_baload X8 hx hZ e8 f5 ((b0 &&& (15 : Int32)).toNatClampNeg) rfl (o_get b0).1 (v := (.int (o_dg (b0 &&& (15 : Int32))))) (o_get b0).2 (hb hby d_prog_43_method_3_code_57) (n := 58) rfl ?_
  refine o_bastore X8 hx hZ e8 V2 (2) (by decide) (by decide) (Nat.le_of_ble_eq_true rfl) (w := (.int (o_ex (2 : Int32) (1 : Int32) (2 : Int32) b0 b1 f))) (congrArg Value.int ((o_lo b0).trans (by first | rfl | (simp [o_ex]; done) | decide))) (vs' := [(.int f), (.int (o_ex (1 : Int32) (1 : Int32) (2 : Int32) b0 b1 f)), (.int (o_ex (2 : Int32) (1 : Int32) (2 : Int32) b0 b1 f)), (.int f), (.int f), (.int f)]) rfl (hb hby d_prog_43_method_3_code_58) (n := 59) rfl ?_
  intro T9 h9 X9 e9 W9 V9
  have f10 := f3.other W9 pne_a1_a2
  have f11 := f4.wr W9
  have f12 := f5.other W9 pne_d0_a2
  have zz9 : n0 ≤ h9.size := Nat.le_trans zz2 (Nat.le_of_eq W9.size.symm)
  have N13 := Fr.snoc X9 N6 pg_a2
  have K14 : Keep h0 h9 [a2] := K7.wr W9 (Or.inl (List.mem_of_getElem? (i := 0) rfl))
  refine o_iinc X9 hx (hb hby d_prog_43_method_3_code_59) (w := (1 : Int32)) rfl (by decide) (Ls' := #[.val (.ref a1), .val (.ref a2), .val (.int (1 : Int32)), .val (.int (3 : Int32)), .val (.ref a1), .val (.int (2 : Int32)), .val (.int (1 : Int32)), .val (.int b0)]) rfl (n := 62) rfl ?_
  refine o_goto X9 hx (hb hby d_prog_43_method_3_code_62) (by decide) (n := 13) (by decide) ?_
  refine o_iload X9 hx (hb hby d_prog_43_method_3_code_13) (v := (1 : Int32)) rfl (n := 15) rfl ?_
  refine o_iload X9 hx (hb hby d_prog_43_method_3_code_15) (v := (2 : Int32)) rfl (n := 17) rfl ?_
  refine o_icmpN X9 hx (hb hby d_prog_43_method_3_code_17) (XT.ii_ge_f (by decide)) (n := 20) rfl ?_
  refine o_aload X9 hx (hb hby d_prog_43_method_3_code_20) (v := (.ref a1)) rfl rfl (n := 22) rfl ?_
  refine o_iload X9 hx (hb hby d_prog_43_method_3_code_22) (v := (1 : Int32)) rfl (n := 24) rfl ?_
  refine o_baload X9 hx hZ e9 f10 (1) (by decide) (by decide) (v := (.int b1)) rfl (hb hby d_prog_43_method_3_code_24) (n := 25) rfl ?_
  refine o_istore X9 hx (hb hby d_prog_43_method_3_code_25) (Ls' := #[.val (.ref a1), .val (.ref a2), .val (.int (1 : Int32)), .val (.int (3 : Int32)), .val (.ref a1), .val (.int (2 : Int32)), .val (.int (1 : Int32)), .val (.int b1)]) rfl (n := 27) rfl ?_
  refine o_aloadN X9 hx (hb hby d_prog_43_method_3_code_27) (v := (.ref a2)) rfl rfl (n := 28) rfl ?_
  refine o_iloadN X9 hx (hb hby d_prog_43_method_3_code_28) (v := (3 : Int32)) rfl (n := 29) rfl ?_
  refine o_iinc X9 hx (hb hby d_prog_43_method_3_code_29) (w := (4 : Int32)) rfl (by decide) (Ls' := #[.val (.ref a1), .val (.ref a2), .val (.int (1 : Int32)), .val (.int (4 : Int32)), .val (.ref a1), .val (.int (2 : Int32)), .val (.int (1 : Int32)), .val (.int b1)]) rfl (n := 32) rfl ?_
  refine o_getstatic X9 hx hZ hown (host := "") (Or.inl (hw _ (List.mem_of_getElem? (i := 10) rfl))) Via.refl e9 f11 (hb hby d_prog_43_method_3_code_32) (n := 35) rfl ?_
  intro T15 X15 e15
  refine o_iload X15 hx (hb hby d_prog_43_method_3_code_35) (v := b1) rfl (n := 37) rfl ?_
  refine o_iconst X15 hx (hb hby d_prog_43_method_3_code_37) (v := (4 : Int32)) rfl (n := 38) rfl ?_
  refine o_ishr X15 hx (hb hby d_prog_43_method_3_code_38) (v := (b1 >>> (4 : Int32))) (congrArg (fun q : Int32 => b1 >>> q) (show (4 : Int32) &&& 31 = 4 by decide)) (n := 39) rfl ?_
  refine o_bipush X15 hx (hb hby d_prog_43_method_3_code_39) (v := (15 : Int32)) rfl (n := 41) rfl ?_
  refine o_iand X15 hx (hb hby d_prog_43_method_3_code_41) (v := ((b1 >>> (4 : Int32)) &&& (15 : Int32))) rfl (n := 42) rfl ?_
  refine o_baload X15 hx hZ e15 f12 (((b1 >>> (4 : Int32)) &&& (15 : Int32)).toNatClampNeg) rfl (o_get (b1 >>> (4 : Int32))).1 (v := (.int (o_dg ((b1 >>> (4 : Int32)) &&& (15 : Int32))))) (o_get (b1 >>> (4 : Int32))).2 (hb hby d_prog_43_method_3_code_42) (n := 43) rfl ?_
  refine o_bastore X15 hx hZ e15 V9 (3) (by decide) (by decide) (Nat.le_of_ble_eq_true rfl) (w := (.int (o_ex (3 : Int32) (1 : Int32) (2 : Int32) b0 b1 f))) (congrArg Value.int ((o_hi b1).trans (by first | rfl | (simp [o_ex]; done) | decide))) (vs' := [(.int f), (.int (o_ex (1 : Int32) (1 : Int32) (2 : Int32) b0 b1 f)), (.int (o_ex (2 : Int32) (1 : Int32) (2 : Int32) b0 b1 f)), (.int (o_ex (3 : Int32) (1 : Int32) (2 : Int32) b0 b1 f)), (.int f), (.int f)]) rfl (hb hby d_prog_43_method_3_code_43) (n := 44) rfl ?_
  intro T16 h16 X16 e16 W16 V16
  have f17 := f10.other W16 pne_a1_a2
  have f18 := f11.wr W16
  have f19 := f12.other W16 pne_d0_a2
  have zz16 : n0 ≤ h16.size := Nat.le_trans zz9 (Nat.le_of_eq W16.size.symm)
  have N20 := Fr.snoc X16 N13 pg_a2
  have K21 : Keep h0 h16 [a2] := K14.wr W16 (Or.inl (List.mem_of_getElem? (i := 0) rfl))
  refine o_aloadN X16 hx (hb hby d_prog_43_method_3_code_44) (v := (.ref a2)) rfl rfl (n := 45) rfl ?_
  refine o_iloadN X16 hx (hb hby d_prog_43_method_3_code_45) (v := (4 : Int32)) rfl (n := 46) rfl ?_
  refine o_iinc X16 hx (hb hby d_prog_43_method_3_code_46) (w := (5 : Int32)) rfl (by decide) (Ls' := #[.val (.ref a1), .val (.ref a2), .val (.int (1 : Int32)), .val (.int (5 : Int32)), .val (.ref a1), .val (.int (2 : Int32)), .val (.int (1 : Int32)), .val (.int b1)]) rfl (n := 49) rfl ?_
  refine o_getstatic X16 hx hZ hown (host := "") (Or.inl (hw _ (List.mem_of_getElem? (i := 10) rfl))) Via.refl e16 f18 (hb hby d_prog_43_method_3_code_49) (n := 52) rfl ?_
  intro T22 X22 e22
  refine o_iload X22 hx (hb hby d_prog_43_method_3_code_52) (v := b1) rfl (n := 54) rfl ?_
  refine o_bipush X22 hx (hb hby d_prog_43_method_3_code_54) (v := (15 : Int32)) rfl (n := 56) rfl ?_
  refine o_iand X22 hx (hb hby d_prog_43_method_3_code_56) (v := (b1 &&& (15 : Int32))) rfl (n := 57) rfl ?_
  refine o_baload X22 hx hZ e22 f19 ((b1 &&& (15 : Int32)).toNatClampNeg) rfl (o_get b1).1 (v := (.int (o_dg (b1 &&& (15 : Int32))))) (o_get b1).2 (hb hby d_prog_43_method_3_code_57) (n := 58) rfl ?_
  refine o_bastore X22 hx hZ e22 V16 (4) (by decide) (by decide) (Nat.le_of_ble_eq_true rfl) (w := (.int (o_ex (4 : Int32) (1 : Int32) (2 : Int32) b0 b1 f))) (congrArg Value.int ((o_lo b1).trans (by first | rfl | (simp [o_ex]; done) | decide))) (vs' := [(.int f), (.int (o_ex (1 : Int32) (1 : Int32) (2 : Int32) b0 b1 f)), (.int (o_ex (2 : Int32) (1 : Int32) (2 : Int32) b0 b1 f)), (.int (o_ex (3 : Int32) (1 : Int32) (2 : Int32) b0 b1 f)), (.int (o_ex (4 : Int32) (1 : Int32) (2 : Int32) b0 b1 f)), (.int f)]) rfl (hb hby d_prog_43_method_3_code_58) (n := 59) rfl ?_
  intro T23 h23 X23 e23 W23 V23
  have f24 := f17.other W23 pne_a1_a2
  have f25 := f18.wr W23
  have f26 := f19.other W23 pne_d0_a2
  have zz23 : n0 ≤ h23.size := Nat.le_trans zz16 (Nat.le_of_eq W23.size.symm)
  have N27 := Fr.snoc X23 N20 pg_a2
  have K28 : Keep h0 h23 [a2] := K21.wr W23 (Or.inl (List.mem_of_getElem? (i := 0) rfl))
  refine o_iinc X23 hx (hb hby d_prog_43_method_3_code_59) (w := (2 : Int32)) rfl (by decide) (Ls' := #[.val (.ref a1), .val (.ref a2), .val (.int (1 : Int32)), .val (.int (5 : Int32)), .val (.ref a1), .val (.int (2 : Int32)), .val (.int (2 : Int32)), .val (.int b1)]) rfl (n := 62) rfl ?_
  refine o_goto X23 hx (hb hby d_prog_43_method_3_code_62) (by decide) (n := 13) (by decide) ?_
  refine o_iload X23 hx (hb hby d_prog_43_method_3_code_13) (v := (2 : Int32)) rfl (n := 15) rfl ?_
  refine o_iload X23 hx (hb hby d_prog_43_method_3_code_15) (v := (2 : Int32)) rfl (n := 17) rfl ?_
  refine o_icmpY X23 hx (hb hby d_prog_43_method_3_code_17) (XT.ii_ge_t (by decide)) (by decide) (n := 65) (by decide) ?_
  refine o_iloadN X23 hx (hb hby d_prog_43_method_3_code_65) (v := (5 : Int32)) rfl (n := 66) rfl ?_
  exact o_ireturn X23 hx hret hlk (hb hby d_prog_43_method_3_code_66) (by decide) (by decide) e23 ⟨(by decide), N27, K28, V23⟩
theorem o_ef16 (m : MethodId) (a1 : Addr) (a2 : Addr) : entryFrame m #[(.ref a1), (.ref a2), (.int (2 : Int32))] 8 = mkF m 0 #[.val (.ref a1), .val (.ref a2), .val (.int (2 : Int32)), .unset, .unset, .unset, .unset, .unset] [] := by first | (simp [entryFrame, mkF, argsToLocals, Value.category]; done) | rfl
set_option maxRecDepth 65536 in
set_option maxHeartbeats 40000000 in
theorem c_format_2_2 (l : Launch) (Z : State) (a0 : Array Value) (hw : ∀ d ∈ tables_1, d.before a0 Z = true) (a1 : Addr) (k1 : ClassId) (a2 : Addr) (k2 : ClassId) (d0 : Addr) (k3 : ClassId) (b0 : Int32) (b1 : Int32) (f : Int32) (h0 : Heap) (n0 : Nat) (Z0 : n0 ≤ h0.size) (pg_a2 : n0 ≤ a2) (pV_a1 : Arv Z h0 a1 k1 .byte (2 : Int32) [(.int b0), (.int b1)] (.int (0 : Int32))) (pV_a2 : Arv Z h0 a2 k2 .byte (6 : Int32) [(.int f), (.int f), (.int f), (.int f), (.int f), (.int f)] (.int (0 : Int32))) (pS_UPPER_CASE_DIGITS : Sta Z h0 "com/example/vigilant_card/vigilantcard/Hex" "UPPER_CASE_DIGITS" "[B" (.ref d0)) (pV_d0 : Arv Z h0 d0 k3 .byte (16 : Int32) [(.int (48 : Int32)), (.int (49 : Int32)), (.int (50 : Int32)), (.int (51 : Int32)), (.int (52 : Int32)), (.int (53 : Int32)), (.int (54 : Int32)), (.int (55 : Int32)), (.int (56 : Int32)), (.int (57 : Int32)), (.int (65 : Int32)), (.int (66 : Int32)), (.int (67 : Int32)), (.int (68 : Int32)), (.int (69 : Int32)), (.int (70 : Int32))] (.int (0 : Int32))) (pne_a1_a2 : a1 ≠ a2) (pne_d0_a2 : d0 ≠ a2) :
    Does l Z (⟨"com/example/vigilant_card/vigilantcard/Hex", "format", "([B[BI)I"⟩ : MethodName) prog_43_method_3_code 8 (some .int) [] ({ frames := 0, cells := 0, slots := 0, locals := 0 } : Room) #[(.ref a1), (.ref a2), (.int (2 : Int32))] h0 (fun v h L => v = some (.int ((2 : Int32) + (4 : Int32))) ∧ Fr n0 L ∧ Keep h0 h [a2] ∧ Arv Z h a2 k2 .byte (6 : Int32) [(.int (o_ex (0 : Int32) (2 : Int32) (2 : Int32) b0 b1 f)), (.int (o_ex (1 : Int32) (2 : Int32) (2 : Int32) b0 b1 f)), (.int (o_ex (2 : Int32) (2 : Int32) (2 : Int32) b0 b1 f)), (.int (o_ex (3 : Int32) (2 : Int32) (2 : Int32) b0 b1 f)), (.int (o_ex (4 : Int32) (2 : Int32) (2 : Int32) b0 b1 f)), (.int (o_ex (5 : Int32) (2 : Int32) (2 : Int32) b0 b1 f))] (.int (0 : Int32))) := by
  refine Does.of (plainFor_of_name o_pn1) ?_
  intro p e s m below meth c T0 hx hby hml hown hnm hret hlk hZ X0 e0
  have hown : s.vm.findClass "com/example/vigilant_card/vigilantcard/Hex" = some m.cls := hown
  have hml : c.maxLocals = 8 := hml
  have hret : meth.sig.returnType = some .int := hret
  refine o_entry (o_ef16 m a1 a2) ?_
  have N0 := Fr.nil n0
  refine o_iloadN X0 hx (hb hby d_prog_43_method_3_code_0) (v := (2 : Int32)) rfl (n := 1) rfl ?_
  refine o_istoreN X0 hx (hb hby d_prog_43_method_3_code_1) (Ls' := #[.val (.ref a1), .val (.ref a2), .val (.int (2 : Int32)), .val (.int (2 : Int32)), .unset, .unset, .unset, .unset]) rfl (n := 2) rfl ?_
  refine o_aloadN X0 hx (hb hby d_prog_43_method_3_code_2) (v := (.ref a1)) rfl rfl (n := 3) rfl ?_
  refine o_astore X0 hx (hb hby d_prog_43_method_3_code_3) rfl (Ls' := #[.val (.ref a1), .val (.ref a2), .val (.int (2 : Int32)), .val (.int (2 : Int32)), .val (.ref a1), .unset, .unset, .unset]) rfl (n := 5) rfl ?_
  refine o_aload X0 hx (hb hby d_prog_43_method_3_code_5) (v := (.ref a1)) rfl rfl (n := 7) rfl ?_
  refine o_arraylength X0 hx hZ e0 pV_a1 (hb hby d_prog_43_method_3_code_7) (n := 8) rfl ?_
  refine o_istore X0 hx (hb hby d_prog_43_method_3_code_8) (Ls' := #[.val (.ref a1), .val (.ref a2), .val (.int (2 : Int32)), .val (.int (2 : Int32)), .val (.ref a1), .val (.int (2 : Int32)), .unset, .unset]) rfl (n := 10) rfl ?_
  refine o_iconst X0 hx (hb hby d_prog_43_method_3_code_10) (v := (0 : Int32)) rfl (n := 11) rfl ?_
  refine o_istore X0 hx (hb hby d_prog_43_method_3_code_11) (Ls' := #[.val (.ref a1), .val (.ref a2), .val (.int (2 : Int32)), .val (.int (2 : Int32)), .val (.ref a1), .val (.int (2 : Int32)), .val (.int (0 : Int32)), .unset]) rfl (n := 13) rfl ?_
  refine o_iload X0 hx (hb hby d_prog_43_method_3_code_13) (v := (0 : Int32)) rfl (n := 15) rfl ?_
  refine o_iload X0 hx (hb hby d_prog_43_method_3_code_15) (v := (2 : Int32)) rfl (n := 17) rfl ?_
  refine o_icmpN X0 hx (hb hby d_prog_43_method_3_code_17) (XT.ii_ge_f (by decide)) (n := 20) rfl ?_
  refine o_aload X0 hx (hb hby d_prog_43_method_3_code_20) (v := (.ref a1)) rfl rfl (n := 22) rfl ?_
  refine o_iload X0 hx (hb hby d_prog_43_method_3_code_22) (v := (0 : Int32)) rfl (n := 24) rfl ?_
  refine o_baload X0 hx hZ e0 pV_a1 (0) (by decide) (by decide) (v := (.int b0)) rfl (hb hby d_prog_43_method_3_code_24) (n := 25) rfl ?_
  refine o_istore X0 hx (hb hby d_prog_43_method_3_code_25) (Ls' := #[.val (.ref a1), .val (.ref a2), .val (.int (2 : Int32)), .val (.int (2 : Int32)), .val (.ref a1), .val (.int (2 : Int32)), .val (.int (0 : Int32)), .val (.int b0)]) rfl (n := 27) rfl ?_
  refine o_aloadN X0 hx (hb hby d_prog_43_method_3_code_27) (v := (.ref a2)) rfl rfl (n := 28) rfl ?_
  refine o_iloadN X0 hx (hb hby d_prog_43_method_3_code_28) (v := (2 : Int32)) rfl (n := 29) rfl ?_
  refine o_iinc X0 hx (hb hby d_prog_43_method_3_code_29) (w := (3 : Int32)) rfl (by decide) (Ls' := #[.val (.ref a1), .val (.ref a2), .val (.int (2 : Int32)), .val (.int (3 : Int32)), .val (.ref a1), .val (.int (2 : Int32)), .val (.int (0 : Int32)), .val (.int b0)]) rfl (n := 32) rfl ?_
  refine o_getstatic X0 hx hZ hown (host := "") (Or.inl (hw _ (List.mem_of_getElem? (i := 10) rfl))) Via.refl e0 pS_UPPER_CASE_DIGITS (hb hby d_prog_43_method_3_code_32) (n := 35) rfl ?_
  intro T1 X1 e1
  refine o_iload X1 hx (hb hby d_prog_43_method_3_code_35) (v := b0) rfl (n := 37) rfl ?_
  refine o_iconst X1 hx (hb hby d_prog_43_method_3_code_37) (v := (4 : Int32)) rfl (n := 38) rfl ?_
  refine o_ishr X1 hx (hb hby d_prog_43_method_3_code_38) (v := (b0 >>> (4 : Int32))) (congrArg (fun q : Int32 => b0 >>> q) (show (4 : Int32) &&& 31 = 4 by decide)) (n := 39) rfl ?_
  refine o_bipush X1 hx (hb hby d_prog_43_method_3_code_39) (v := (15 : Int32)) rfl (n := 41) rfl ?_
  refine o_iand X1 hx (hb hby d_prog_43_method_3_code_41) (v := ((b0 >>> (4 : Int32)) &&& (15 : Int32))) rfl (n := 42) rfl ?_
  refine o_baload X1 hx hZ e1 pV_d0 (((b0 >>> (4 : Int32)) &&& (15 : Int32)).toNatClampNeg) rfl (o_get (b0 >>> (4 : Int32))).1 (v := (.int (o_dg ((b0 >>> (4 : Int32)) &&& (15 : Int32))))) (o_get (b0 >>> (4 : Int32))).2 (hb hby d_prog_43_method_3_code_42) (n := 43) rfl ?_
  refine o_bastore X1 hx hZ e1 pV_a2 (2) (by decide) (by decide) (Nat.le_of_ble_eq_true rfl) (w := (.int (o_ex (2 : Int32) (2 : Int32) (2 : Int32) b0 b1 f))) (congrArg Value.int ((o_hi b0).trans (by first | rfl | (simp [o_ex]; done) | decide))) (vs' := [(.int f), (.int f), (.int (o_ex (2 : Int32) (2 : Int32) (2 : Int32) b0 b1 f)), (.int f), (.int f), (.int f)]) rfl (hb hby d_prog_43_method_3_code_43) (n := 44) rfl ?_
  intro T2 h2 X2 e2 W2 V2
  have f3 := pV_a1.other W2 pne_a1_a2
  have f4 := pS_UPPER_CASE_DIGITS.wr W2
  have f5 := pV_d0.other W2 pne_d0_a2
  have zz2 : n0 ≤ h2.size := Nat.le_trans Z0 (Nat.le_of_eq W2.size.symm)
  have N6 := Fr.snoc X2 N0 pg_a2
  have K7 : Keep h0 h2 [a2] := (Keep.refl h0 [a2]).wr W2 (Or.inl (List.mem_of_getElem? (i := 0) rfl))
  refine o_aloadN X2 hx (hb hby d_prog_43_method_3_code_44) (v := (.ref a2)) rfl rfl (n := 45) rfl ?_
  refine o_iloadN X2 hx (hb hby d_prog_43_method_3_code_45) (v := (3 : Int32)) rfl (n := 46) rfl ?_
  refine o_iinc X2 hx (hb hby d_prog_43_method_3_code_46) (w := (4 : Int32)) rfl (by decide) (Ls' := #[.val (.ref a1), .val (.ref a2), .val (.int (2 : Int32)), .val (.int (4 : Int32)), .val (.ref a1), .val (.int (2 : Int32)), .val (.int (0 : Int32)), .val (.int b0)]) rfl (n := 49) rfl ?_
  refine o_getstatic X2 hx hZ hown (host := "") (Or.inl (hw _ (List.mem_of_getElem? (i := 10) rfl))) Via.refl e2 f4 (hb hby d_prog_43_method_3_code_49) (n := 52) rfl ?_
  intro T8 X8 e8
  refine o_iload X8 hx (hb hby d_prog_43_method_3_code_52) (v := b0) rfl (n := 54) rfl ?_
  refine o_bipush X8 hx (hb hby d_prog_43_method_3_code_54) (v := (15 : Int32)) rfl (n := 56) rfl ?_
  refine o_iand X8 hx (hb hby d_prog_43_method_3_code_56) (v := (b0 &&& (15 : Int32))) rfl (n := 57) rfl ?_
  refine o_baload X8 hx hZ e8 f5 ((b0 &&& (15 : Int32)).toNatClampNeg) rfl (o_get b0).1 (v := (.int (o_dg (b0 &&& (15 : Int32))))) (o_get b0).2 (hb hby d_prog_43_method_3_code_57) (n := 58) rfl ?_
  refine o_bastore X8 hx hZ e8 V2 (3) (by decide) (by decide) (Nat.le_of_ble_eq_true rfl) (w := (.int (o_ex (3 : Int32) (2 : Int32) (2 : Int32) b0 b1 f))) (congrArg Value.int ((o_lo b0).trans (by first | rfl | (simp [o_ex]; done) | decide))) (vs' := [(.int f), (.int f), (.int (o_ex (2 : Int32) (2 : Int32) (2 : Int32) b0 b1 f)), (.int (o_ex (3 : Int32) (2 : Int32) (2 : Int32) b0 b1 f)), (.int f), (.int f)]) rfl (hb hby d_prog_43_method_3_code_58) (n := 59) rfl ?_
  intro T9 h9 X9 e9 W9 V9
  have f10 := f3.other W9 pne_a1_a2
  have f11 := f4.wr W9
  have f12 := f5.other W9 pne_d0_a2
  have zz9 : n0 ≤ h9.size := Nat.le_trans zz2 (Nat.le_of_eq W9.size.symm)
  have N13 := Fr.snoc X9 N6 pg_a2
  have K14 : Keep h0 h9 [a2] := K7.wr W9 (Or.inl (List.mem_of_getElem? (i := 0) rfl))
  refine o_iinc X9 hx (hb hby d_prog_43_method_3_code_59) (w := (1 : Int32)) rfl (by decide) (Ls' := #[.val (.ref a1), .val (.ref a2), .val (.int (2 : Int32)), .val (.int (4 : Int32)), .val (.ref a1), .val (.int (2 : Int32)), .val (.int (1 : Int32)), .val (.int b0)]) rfl (n := 62) rfl ?_
  refine o_goto X9 hx (hb hby d_prog_43_method_3_code_62) (by decide) (n := 13) (by decide) ?_
  refine o_iload X9 hx (hb hby d_prog_43_method_3_code_13) (v := (1 : Int32)) rfl (n := 15) rfl ?_
  refine o_iload X9 hx (hb hby d_prog_43_method_3_code_15) (v := (2 : Int32)) rfl (n := 17) rfl ?_
  refine o_icmpN X9 hx (hb hby d_prog_43_method_3_code_17) (XT.ii_ge_f (by decide)) (n := 20) rfl ?_
  refine o_aload X9 hx (hb hby d_prog_43_method_3_code_20) (v := (.ref a1)) rfl rfl (n := 22) rfl ?_
  refine o_iload X9 hx (hb hby d_prog_43_method_3_code_22) (v := (1 : Int32)) rfl (n := 24) rfl ?_
  refine o_baload X9 hx hZ e9 f10 (1) (by decide) (by decide) (v := (.int b1)) rfl (hb hby d_prog_43_method_3_code_24) (n := 25) rfl ?_
  refine o_istore X9 hx (hb hby d_prog_43_method_3_code_25) (Ls' := #[.val (.ref a1), .val (.ref a2), .val (.int (2 : Int32)), .val (.int (4 : Int32)), .val (.ref a1), .val (.int (2 : Int32)), .val (.int (1 : Int32)), .val (.int b1)]) rfl (n := 27) rfl ?_
  refine o_aloadN X9 hx (hb hby d_prog_43_method_3_code_27) (v := (.ref a2)) rfl rfl (n := 28) rfl ?_
  refine o_iloadN X9 hx (hb hby d_prog_43_method_3_code_28) (v := (4 : Int32)) rfl (n := 29) rfl ?_
  refine o_iinc X9 hx (hb hby d_prog_43_method_3_code_29) (w := (5 : Int32)) rfl (by decide) (Ls' := #[.val (.ref a1), .val (.ref a2), .val (.int (2 : Int32)), .val (.int (5 : Int32)), .val (.ref a1), .val (.int (2 : Int32)), .val (.int (1 : Int32)), .val (.int b1)]) rfl (n := 32) rfl ?_
  refine o_getstatic X9 hx hZ hown (host := "") (Or.inl (hw _ (List.mem_of_getElem? (i := 10) rfl))) Via.refl e9 f11 (hb hby d_prog_43_method_3_code_32) (n := 35) rfl ?_
  intro T15 X15 e15
  refine o_iload X15 hx (hb hby d_prog_43_method_3_code_35) (v := b1) rfl (n := 37) rfl ?_
  refine o_iconst X15 hx (hb hby d_prog_43_method_3_code_37) (v := (4 : Int32)) rfl (n := 38) rfl ?_
  refine o_ishr X15 hx (hb hby d_prog_43_method_3_code_38) (v := (b1 >>> (4 : Int32))) (congrArg (fun q : Int32 => b1 >>> q) (show (4 : Int32) &&& 31 = 4 by decide)) (n := 39) rfl ?_
  refine o_bipush X15 hx (hb hby d_prog_43_method_3_code_39) (v := (15 : Int32)) rfl (n := 41) rfl ?_
  refine o_iand X15 hx (hb hby d_prog_43_method_3_code_41) (v := ((b1 >>> (4 : Int32)) &&& (15 : Int32))) rfl (n := 42) rfl ?_
  refine o_baload X15 hx hZ e15 f12 (((b1 >>> (4 : Int32)) &&& (15 : Int32)).toNatClampNeg) rfl (o_get (b1 >>> (4 : Int32))).1 (v := (.int (o_dg ((b1 >>> (4 : Int32)) &&& (15 : Int32))))) (o_get (b1 >>> (4 : Int32))).2 (hb hby d_prog_43_method_3_code_42) (n := 43) rfl ?_
  refine o_bastore X15 hx hZ e15 V9 (4) (by decide) (by decide) (Nat.le_of_ble_eq_true rfl) (w := (.int (o_ex (4 : Int32) (2 : Int32) (2 : Int32) b0 b1 f))) (congrArg Value.int ((o_hi b1).trans (by first | rfl | (simp [o_ex]; done) | decide))) (vs' := [(.int f), (.int f), (.int (o_ex (2 : Int32) (2 : Int32) (2 : Int32) b0 b1 f)), (.int (o_ex (3 : Int32) (2 : Int32) (2 : Int32) b0 b1 f)), (.int (o_ex (4 : Int32) (2 : Int32) (2 : Int32) b0 b1 f)), (.int f)]) rfl (hb hby d_prog_43_method_3_code_43) (n := 44) rfl ?_
  intro T16 h16 X16 e16 W16 V16
  have f17 := f10.other W16 pne_a1_a2
  have f18 := f11.wr W16
  have f19 := f12.other W16 pne_d0_a2
  have zz16 : n0 ≤ h16.size := Nat.le_trans zz9 (Nat.le_of_eq W16.size.symm)
  have N20 := Fr.snoc X16 N13 pg_a2
  have K21 : Keep h0 h16 [a2] := K14.wr W16 (Or.inl (List.mem_of_getElem? (i := 0) rfl))
  refine o_aloadN X16 hx (hb hby d_prog_43_method_3_code_44) (v := (.ref a2)) rfl rfl (n := 45) rfl ?_
  refine o_iloadN X16 hx (hb hby d_prog_43_method_3_code_45) (v := (5 : Int32)) rfl (n := 46) rfl ?_
  refine o_iinc X16 hx (hb hby d_prog_43_method_3_code_46) (w := (6 : Int32)) rfl (by decide) (Ls' := #[.val (.ref a1), .val (.ref a2), .val (.int (2 : Int32)), .val (.int (6 : Int32)), .val (.ref a1), .val (.int (2 : Int32)), .val (.int (1 : Int32)), .val (.int b1)]) rfl (n := 49) rfl ?_
  refine o_getstatic X16 hx hZ hown (host := "") (Or.inl (hw _ (List.mem_of_getElem? (i := 10) rfl))) Via.refl e16 f18 (hb hby d_prog_43_method_3_code_49) (n := 52) rfl ?_
  intro T22 X22 e22
  refine o_iload X22 hx (hb hby d_prog_43_method_3_code_52) (v := b1) rfl (n := 54) rfl ?_
  refine o_bipush X22 hx (hb hby d_prog_43_method_3_code_54) (v := (15 : Int32)) rfl (n := 56) rfl ?_
  refine o_iand X22 hx (hb hby d_prog_43_method_3_code_56) (v := (b1 &&& (15 : Int32))) rfl (n := 57) rfl ?_
  refine o_baload X22 hx hZ e22 f19 ((b1 &&& (15 : Int32)).toNatClampNeg) rfl (o_get b1).1 (v := (.int (o_dg (b1 &&& (15 : Int32))))) (o_get b1).2 (hb hby d_prog_43_method_3_code_57) (n := 58) rfl ?_
  refine o_bastore X22 hx hZ e22 V16 (5) (by decide) (by decide) (Nat.le_of_ble_eq_true rfl) (w := (.int (o_ex (5 : Int32) (2 : Int32) (2 : Int32) b0 b1 f))) (congrArg Value.int ((o_lo b1).trans (by first | rfl | (simp [o_ex]; done) | decide))) (vs' := [(.int f), (.int f), (.int (o_ex (2 : Int32) (2 : Int32) (2 : Int32) b0 b1 f)), (.int (o_ex (3 : Int32) (2 : Int32) (2 : Int32) b0 b1 f)), (.int (o_ex (4 : Int32) (2 : Int32) (2 : Int32) b0 b1 f)), (.int (o_ex (5 : Int32) (2 : Int32) (2 : Int32) b0 b1 f))]) rfl (hb hby d_prog_43_method_3_code_58) (n := 59) rfl ?_
  intro T23 h23 X23 e23 W23 V23
  have f24 := f17.other W23 pne_a1_a2
  have f25 := f18.wr W23
  have f26 := f19.other W23 pne_d0_a2
  have zz23 : n0 ≤ h23.size := Nat.le_trans zz16 (Nat.le_of_eq W23.size.symm)
  have N27 := Fr.snoc X23 N20 pg_a2
  have K28 : Keep h0 h23 [a2] := K21.wr W23 (Or.inl (List.mem_of_getElem? (i := 0) rfl))
  refine o_iinc X23 hx (hb hby d_prog_43_method_3_code_59) (w := (2 : Int32)) rfl (by decide) (Ls' := #[.val (.ref a1), .val (.ref a2), .val (.int (2 : Int32)), .val (.int (6 : Int32)), .val (.ref a1), .val (.int (2 : Int32)), .val (.int (2 : Int32)), .val (.int b1)]) rfl (n := 62) rfl ?_
  refine o_goto X23 hx (hb hby d_prog_43_method_3_code_62) (by decide) (n := 13) (by decide) ?_
  refine o_iload X23 hx (hb hby d_prog_43_method_3_code_13) (v := (2 : Int32)) rfl (n := 15) rfl ?_
  refine o_iload X23 hx (hb hby d_prog_43_method_3_code_15) (v := (2 : Int32)) rfl (n := 17) rfl ?_
  refine o_icmpY X23 hx (hb hby d_prog_43_method_3_code_17) (XT.ii_ge_t (by decide)) (by decide) (n := 65) (by decide) ?_
  refine o_iloadN X23 hx (hb hby d_prog_43_method_3_code_65) (v := (6 : Int32)) rfl (n := 66) rfl ?_
  exact o_ireturn X23 hx hret hlk (hb hby d_prog_43_method_3_code_66) (by decide) (by decide) e23 ⟨(by decide), N27, K28, V23⟩
set_option maxRecDepth 65536 in
set_option maxHeartbeats 40000000 in
theorem c_format_2 (l : Launch) (Z : State) (a0 : Array Value) (hw : ∀ d ∈ tables_1, d.before a0 Z = true) (a1 : Addr) (k1 : ClassId) (a2 : Addr) (k2 : ClassId) (d0 : Addr) (k3 : ClassId) (b0 : Int32) (b1 : Int32) (f : Int32) (off : Int32) (h0 : Heap) (n0 : Nat) (Z0 : n0 ≤ h0.size) (pg_a2 : n0 ≤ a2) (pV_a1 : Arv Z h0 a1 k1 .byte (2 : Int32) [(.int b0), (.int b1)] (.int (0 : Int32))) (pV_a2 : Arv Z h0 a2 k2 .byte (6 : Int32) [(.int f), (.int f), (.int f), (.int f), (.int f), (.int f)] (.int (0 : Int32))) (pS_UPPER_CASE_DIGITS : Sta Z h0 "com/example/vigilant_card/vigilantcard/Hex" "UPPER_CASE_DIGITS" "[B" (.ref d0)) (pV_d0 : Arv Z h0 d0 k3 .byte (16 : Int32) [(.int (48 : Int32)), (.int (49 : Int32)), (.int (50 : Int32)), (.int (51 : Int32)), (.int (52 : Int32)), (.int (53 : Int32)), (.int (54 : Int32)), (.int (55 : Int32)), (.int (56 : Int32)), (.int (57 : Int32)), (.int (65 : Int32)), (.int (66 : Int32)), (.int (67 : Int32)), (.int (68 : Int32)), (.int (69 : Int32)), (.int (70 : Int32))] (.int (0 : Int32))) (pne_a1_a2 : a1 ≠ a2) (pne_d0_a2 : d0 ≠ a2) (ho : off = 0 ∨ off = 1 ∨ off = 2) :
    Does l Z (⟨"com/example/vigilant_card/vigilantcard/Hex", "format", "([B[BI)I"⟩ : MethodName) prog_43_method_3_code 8 (some .int) [] ({ frames := 0, cells := 0, slots := 0, locals := 0 } : Room) #[(.ref a1), (.ref a2), (.int off)] h0 (fun v h L => v = some (.int (off + (4 : Int32))) ∧ Fr n0 L ∧ Keep h0 h [a2] ∧ Arv Z h a2 k2 .byte (6 : Int32) [(.int (o_ex (0 : Int32) off (2 : Int32) b0 b1 f)), (.int (o_ex (1 : Int32) off (2 : Int32) b0 b1 f)), (.int (o_ex (2 : Int32) off (2 : Int32) b0 b1 f)), (.int (o_ex (3 : Int32) off (2 : Int32) b0 b1 f)), (.int (o_ex (4 : Int32) off (2 : Int32) b0 b1 f)), (.int (o_ex (5 : Int32) off (2 : Int32) b0 b1 f))] (.int (0 : Int32))) := by
  rcases ho with rfl | rfl | rfl
  · exact c_format_2_0 l Z a0 hw a1 k1 a2 k2 d0 k3 b0 b1 f h0 n0 Z0 pg_a2 pV_a1 pV_a2 pS_UPPER_CASE_DIGITS pV_d0 pne_a1_a2 pne_d0_a2
  · exact c_format_2_1 l Z a0 hw a1 k1 a2 k2 d0 k3 b0 b1 f h0 n0 Z0 pg_a2 pV_a1 pV_a2 pS_UPPER_CASE_DIGITS pV_d0 pne_a1_a2 pne_d0_a2
  · exact c_format_2_2 l Z a0 hw a1 k1 a2 k2 d0 k3 b0 b1 f h0 n0 Z0 pg_a2 pV_a1 pV_a2 pS_UPPER_CASE_DIGITS pV_d0 pne_a1_a2 pne_d0_a2
theorem o_pd0 : parseMethodDescriptor "([B[BI)I" = some ⟨[(.array .byte), (.array .byte), .int], some .int⟩ := by decide +kernel
theorem o_pd1 : parseMethodDescriptor "(IIIBBB)B" = some ⟨[.int, .int, .int, .byte, .byte, .byte], some .byte⟩ := by decide +kernel
theorem o_ef17 (m : MethodId) (p0 : Int32) (p1 : Int32) (p2 : Int32) (p3 : Int32) (p4 : Int32) : entryFrame m #[(.int p0), (.int p1), (.int p2), (.int p3), (.int p4)] maxLocals = mkF m 0 #[.val (.int p0), .val (.int p1), .val (.int p2), .val (.int p3), .val (.int p4), .unset, .unset, .unset, .unset, .unset, .unset, .unset, .unset] [] := by first | (simp [entryFrame, mkF, argsToLocals, Value.category, maxLocals]; done) | rfl
set_option maxRecDepth 65536 in
set_option maxHeartbeats 40000000 in
theorem o_law (l : Launch) (Z : State) (a0 : Array Value) (hw : ∀ d ∈ tables_1, d.before a0 Z = true) (p0 : Int32) (p1 : Int32) (p2 : Int32) (p3 : Int32) (p4 : Int32) (h0 : Heap) (n0 : Nat) (Z0 : n0 ≤ h0.size) (d0 : Addr) (k3 : ClassId) (pS_UPPER_CASE_DIGITS : Sta Z h0 "com/example/vigilant_card/vigilantcard/Hex" "UPPER_CASE_DIGITS" "[B" (.ref d0)) (pV_d0 : Arv Z h0 d0 k3 .byte (16 : Int32) [(.int (48 : Int32)), (.int (49 : Int32)), (.int (50 : Int32)), (.int (51 : Int32)), (.int (52 : Int32)), (.int (53 : Int32)), (.int (54 : Int32)), (.int (55 : Int32)), (.int (56 : Int32)), (.int (57 : Int32)), (.int (65 : Int32)), (.int (66 : Int32)), (.int (67 : Int32)), (.int (68 : Int32)), (.int (69 : Int32)), (.int (70 : Int32))] (.int (0 : Int32))) :
    Does l Z x code maxLocals ret tables_1 room_1 #[(.int p0), (.int p1), (.int p2), (.int p3), (.int p4)] h0 (fun v h L => v = some (.int 1) ∧ Fr n0 L) := by
  refine Does.of (plainFor_of_name o_pn0) ?_
  intro p e s m below meth c T0 hx hby hml hown hnm hret hlk hZ X0 e0
  have hown : s.vm.findClass "com/example/vigilant_card/vigilantcard/HexFormatPinLaw" = some m.cls := hown
  have hml : c.maxLocals = 13 := hml
  have hret : meth.sig.returnType = some .boolean := hret
  refine o_entry (o_ef17 m p0 p1 p2 p3 p4) ?_
  have N0 := Fr.nil n0
  rcases o_mod3 p0 with q | q | q
  · refine o_iloadN X0 hx (hb hby at_0) (v := p0) rfl (n := 1) rfl ?_
    refine o_ldc X0 hx hZ (v := (2147483647 : Int32)) hown (hw _ (List.mem_of_getElem? (i := 0) rfl)) (hb hby at_1) (n := 3) rfl ?_
    refine o_iand X0 hx (hb hby at_3) (v := (p0 &&& (2147483647 : Int32))) rfl (n := 4) rfl ?_
    refine o_iconst X0 hx (hb hby at_4) (v := (3 : Int32)) rfl (n := 5) rfl ?_
    refine o_irem X0 hx (hb hby at_5) (by decide) (v := (0 : Int32)) q (n := 6) rfl ?_
    refine o_istore X0 hx (hb hby at_6) (Ls' := #[.val (.int p0), .val (.int p1), .val (.int p2), .val (.int p3), .val (.int p4), .val (.int (0 : Int32)), .unset, .unset, .unset, .unset, .unset, .unset, .unset]) rfl (n := 8) rfl ?_
    refine o_iloadN X0 hx (hb hby at_8) (v := p1) rfl (n := 9) rfl ?_
    refine o_i2b X0 hx (hb hby at_9) (v := p1.toInt8.toInt32) rfl (n := 10) rfl ?_
    refine o_istore X0 hx (hb hby at_10) (Ls' := #[.val (.int p0), .val (.int p1), .val (.int p2), .val (.int p3), .val (.int p4), .val (.int (0 : Int32)), .val (.int p1.toInt8.toInt32), .unset, .unset, .unset, .unset, .unset, .unset]) rfl (n := 12) rfl ?_
    generalize h_y0 : p1.toInt8.toInt32 = y0
    refine o_iloadN X0 hx (hb hby at_12) (v := p2) rfl (n := 13) rfl ?_
    refine o_i2b X0 hx (hb hby at_13) (v := p2.toInt8.toInt32) rfl (n := 14) rfl ?_
    refine o_istore X0 hx (hb hby at_14) (Ls' := #[.val (.int p0), .val (.int p1), .val (.int p2), .val (.int p3), .val (.int p4), .val (.int (0 : Int32)), .val (.int y0), .val (.int p2.toInt8.toInt32), .unset, .unset, .unset, .unset, .unset]) rfl (n := 16) rfl ?_
    generalize h_y1 : p2.toInt8.toInt32 = y1
    refine o_iload X0 hx (hb hby at_16) (v := p4) rfl (n := 18) rfl ?_
    refine o_i2b X0 hx (hb hby at_18) (v := p4.toInt8.toInt32) rfl (n := 19) rfl ?_
    refine o_istore X0 hx (hb hby at_19) (Ls' := #[.val (.int p0), .val (.int p1), .val (.int p2), .val (.int p3), .val (.int p4), .val (.int (0 : Int32)), .val (.int y0), .val (.int y1), .val (.int p4.toInt8.toInt32), .unset, .unset, .unset, .unset]) rfl (n := 21) rfl ?_
    generalize h_f : p4.toInt8.toInt32 = f
    have hy08 : nar .byte y0 = y0 := h_y0 ▸ o_nar8 p1
    have hy18 : nar .byte y1 = y1 := h_y1 ▸ o_nar8 p2
    have hf8 : nar .byte f = f := h_f ▸ o_nar8 p4
    refine o_iload X0 hx (hb hby at_21) (v := (0 : Int32)) rfl (n := 23) rfl ?_
    refine o_ifN X0 hx (hb hby at_23) (XT.i0_ne_f (by decide)) (n := 26) rfl ?_
    refine o_iconst X0 hx (hb hby at_26) (v := (0 : Int32)) rfl (n := 27) rfl ?_
    refine o_newarray X0 hx hZ (aty := .byte) (hw _ (List.mem_of_getElem? (i := 1) rfl)) e0 (hb hby at_27) (by decide) 0 (by decide) (by decide) (by decide) (by decide) (n := 29) rfl ?_
    intro T1 h1 b1 k1 X1 e1 g1 E1 V1
    have ne2 : d0 ≠ b1 := Nat.ne_of_lt (Nat.lt_of_lt_of_eq pV_d0.lt g1.symm)
    have gg1 : n0 ≤ b1 := Nat.le_trans Z0 (Nat.le_of_eq g1.symm)
    have zz1 : n0 ≤ h1.size := Nat.le_trans Z0 E1.1
    have f3 := pS_UPPER_CASE_DIGITS.ext E1
    have f4 := pV_d0.ext E1
    have f5 : Arv Z h1 b1 k1 .byte (0 : Int32) [] (.int (0 : Int32)) := V1.pad (pad_rep [] (.int (0 : Int32)) 0)
    refine o_goto X1 hx (hb hby at_29) (by decide) (n := 62) (by decide) ?_
    refine o_astore X1 hx (hb hby at_62) rfl (Ls' := #[.val (.int p0), .val (.int p1), .val (.int p2), .val (.int p3), .val (.int p4), .val (.int (0 : Int32)), .val (.int y0), .val (.int y1), .val (.int f), .val (.ref b1), .unset, .unset, .unset]) rfl (n := 64) rfl ?_
    refine o_bipush X1 hx (hb hby at_64) (v := (6 : Int32)) rfl (n := 66) rfl ?_
    refine o_newarray X1 hx hZ (aty := .byte) (hw _ (List.mem_of_getElem? (i := 1) rfl)) e1 (hb hby at_66) (by decide) 6 (by decide) (by decide) (by decide) (by decide) (n := 68) rfl ?_
    intro T6 h6 b6 k6 X6 e6 g6 E6 V6
    have ne7 : d0 ≠ b6 := Nat.ne_of_lt (Nat.lt_of_lt_of_eq f4.lt g6.symm)
    have ne8 : b1 ≠ b6 := Nat.ne_of_lt (Nat.lt_of_lt_of_eq f5.lt g6.symm)
    have gg6 : n0 ≤ b6 := Nat.le_trans zz1 (Nat.le_of_eq g6.symm)
    have zz6 : n0 ≤ h6.size := Nat.le_trans zz1 E6.1
    have f9 := f3.ext E6
    have f10 := f4.ext E6
    have f11 := f5.ext E6
    have f12 : Arv Z h6 b6 k6 .byte (6 : Int32) [(.int (0 : Int32)), (.int (0 : Int32)), (.int (0 : Int32)), (.int (0 : Int32)), (.int (0 : Int32)), (.int (0 : Int32))] (.int (0 : Int32)) := V6.pad (pad_rep [] (.int (0 : Int32)) 6)
    refine o_dup X6 hx (hb hby at_68) rfl (n := 69) rfl ?_
    refine o_iconst X6 hx (hb hby at_69) (v := (0 : Int32)) rfl (n := 70) rfl ?_
    refine o_iload X6 hx (hb hby at_70) (v := f) rfl (n := 72) rfl ?_
    refine o_bastore X6 hx hZ e6 f12 (0) (by decide) (by decide) (Nat.le_of_ble_eq_true rfl) (w := (.int f)) (congrArg Value.int hf8) (vs' := [(.int f), (.int (0 : Int32)), (.int (0 : Int32)), (.int (0 : Int32)), (.int (0 : Int32)), (.int (0 : Int32))]) rfl (hb hby at_72) (n := 73) rfl ?_
    intro T13 h13 X13 e13 W13 V13
    have f14 := f9.wr W13
    have f15 := f10.other W13 ne7
    have f16 := f11.other W13 ne8
    have zz13 : n0 ≤ h13.size := Nat.le_trans zz6 (Nat.le_of_eq W13.size.symm)
    have N17 := Fr.snoc X13 N0 gg6
    refine o_dup X13 hx (hb hby at_73) rfl (n := 74) rfl ?_
    refine o_iconst X13 hx (hb hby at_74) (v := (1 : Int32)) rfl (n := 75) rfl ?_
    refine o_iload X13 hx (hb hby at_75) (v := f) rfl (n := 77) rfl ?_
    refine o_bastore X13 hx hZ e13 V13 (1) (by decide) (by decide) (Nat.le_of_ble_eq_true rfl) (w := (.int f)) (congrArg Value.int hf8) (vs' := [(.int f), (.int f), (.int (0 : Int32)), (.int (0 : Int32)), (.int (0 : Int32)), (.int (0 : Int32))]) rfl (hb hby at_77) (n := 78) rfl ?_
    intro T18 h18 X18 e18 W18 V18
    have f19 := f14.wr W18
    have f20 := f15.other W18 ne7
    have f21 := f16.other W18 ne8
    have zz18 : n0 ≤ h18.size := Nat.le_trans zz13 (Nat.le_of_eq W18.size.symm)
    have N22 := Fr.snoc X18 N17 gg6
    refine o_dup X18 hx (hb hby at_78) rfl (n := 79) rfl ?_
    refine o_iconst X18 hx (hb hby at_79) (v := (2 : Int32)) rfl (n := 80) rfl ?_
    refine o_iload X18 hx (hb hby at_80) (v := f) rfl (n := 82) rfl ?_
    refine o_bastore X18 hx hZ e18 V18 (2) (by decide) (by decide) (Nat.le_of_ble_eq_true rfl) (w := (.int f)) (congrArg Value.int hf8) (vs' := [(.int f), (.int f), (.int f), (.int (0 : Int32)), (.int (0 : Int32)), (.int (0 : Int32))]) rfl (hb hby at_82) (n := 83) rfl ?_
    intro T23 h23 X23 e23 W23 V23
    have f24 := f19.wr W23
    have f25 := f20.other W23 ne7
    have f26 := f21.other W23 ne8
    have zz23 : n0 ≤ h23.size := Nat.le_trans zz18 (Nat.le_of_eq W23.size.symm)
    have N27 := Fr.snoc X23 N22 gg6
    refine o_dup X23 hx (hb hby at_83) rfl (n := 84) rfl ?_
    refine o_iconst X23 hx (hb hby at_84) (v := (3 : Int32)) rfl (n := 85) rfl ?_
    refine o_iload X23 hx (hb hby at_85) (v := f) rfl (n := 87) rfl ?_
    refine o_bastore X23 hx hZ e23 V23 (3) (by decide) (by decide) (Nat.le_of_ble_eq_true rfl) (w := (.int f)) (congrArg Value.int hf8) (vs' := [(.int f), (.int f), (.int f), (.int f), (.int (0 : Int32)), (.int (0 : Int32))]) rfl (hb hby at_87) (n := 88) rfl ?_
    intro T28 h28 X28 e28 W28 V28
    have f29 := f24.wr W28
    have f30 := f25.other W28 ne7
    have f31 := f26.other W28 ne8
    have zz28 : n0 ≤ h28.size := Nat.le_trans zz23 (Nat.le_of_eq W28.size.symm)
    have N32 := Fr.snoc X28 N27 gg6
    refine o_dup X28 hx (hb hby at_88) rfl (n := 89) rfl ?_
    refine o_iconst X28 hx (hb hby at_89) (v := (4 : Int32)) rfl (n := 90) rfl ?_
    refine o_iload X28 hx (hb hby at_90) (v := f) rfl (n := 92) rfl ?_
    refine o_bastore X28 hx hZ e28 V28 (4) (by decide) (by decide) (Nat.le_of_ble_eq_true rfl) (w := (.int f)) (congrArg Value.int hf8) (vs' := [(.int f), (.int f), (.int f), (.int f), (.int f), (.int (0 : Int32))]) rfl (hb hby at_92) (n := 93) rfl ?_
    intro T33 h33 X33 e33 W33 V33
    have f34 := f29.wr W33
    have f35 := f30.other W33 ne7
    have f36 := f31.other W33 ne8
    have zz33 : n0 ≤ h33.size := Nat.le_trans zz28 (Nat.le_of_eq W33.size.symm)
    have N37 := Fr.snoc X33 N32 gg6
    refine o_dup X33 hx (hb hby at_93) rfl (n := 94) rfl ?_
    refine o_iconst X33 hx (hb hby at_94) (v := (5 : Int32)) rfl (n := 95) rfl ?_
    refine o_iload X33 hx (hb hby at_95) (v := f) rfl (n := 97) rfl ?_
    refine o_bastore X33 hx hZ e33 V33 (5) (by decide) (by decide) (Nat.le_of_ble_eq_true rfl) (w := (.int f)) (congrArg Value.int hf8) (vs' := [(.int f), (.int f), (.int f), (.int f), (.int f), (.int f)]) rfl (hb hby at_97) (n := 98) rfl ?_
    intro T38 h38 X38 e38 W38 V38
    have f39 := f34.wr W38
    have f40 := f35.other W38 ne7
    have f41 := f36.other W38 ne8
    have zz38 : n0 ≤ h38.size := Nat.le_trans zz33 (Nat.le_of_eq W38.size.symm)
    have N42 := Fr.snoc X38 N37 gg6
    refine o_astore X38 hx (hb hby at_98) rfl (Ls' := #[.val (.int p0), .val (.int p1), .val (.int p2), .val (.int p3), .val (.int p4), .val (.int (0 : Int32)), .val (.int y0), .val (.int y1), .val (.int f), .val (.ref b1), .val (.ref b6), .unset, .unset]) rfl (n := 100) rfl ?_
    refine o_iloadN X38 hx (hb hby at_100) (v := p3) rfl (n := 101) rfl ?_
    refine o_ldc X38 hx hZ (v := (2147483647 : Int32)) hown (hw _ (List.mem_of_getElem? (i := 0) rfl)) (hb hby at_101) (n := 103) rfl ?_
    refine o_iand X38 hx (hb hby at_103) (v := (p3 &&& (2147483647 : Int32))) rfl (n := 104) rfl ?_
    refine o_bipush X38 hx (hb hby at_104) (v := (7 : Int32)) rfl (n := 106) rfl ?_
    refine o_iconst X38 hx (hb hby at_106) (v := (2 : Int32)) rfl (n := 107) rfl ?_
    refine o_iload X38 hx (hb hby at_107) (v := (0 : Int32)) rfl (n := 109) rfl ?_
    refine o_imul X38 hx (hb hby at_109) (v := (0 : Int32)) (by decide) (n := 110) rfl ?_
    refine o_isub X38 hx (hb hby at_110) (v := (7 : Int32)) (by decide) (n := 111) rfl ?_
    refine o_irem X38 hx (hb hby at_111) (by decide) (v := ((p3 &&& (2147483647 : Int32)) % (7 : Int32))) rfl (n := 112) rfl ?_
    refine o_istore X38 hx (hb hby at_112) (Ls' := #[.val (.int p0), .val (.int p1), .val (.int p2), .val (.int p3), .val (.int p4), .val (.int (0 : Int32)), .val (.int y0), .val (.int y1), .val (.int f), .val (.ref b1), .val (.ref b6), .val (.int ((p3 &&& (2147483647 : Int32)) % (7 : Int32))), .unset]) rfl (n := 114) rfl ?_
    generalize h_off : ((p3 &&& (2147483647 : Int32)) % (7 : Int32)) = off
    refine o_aload X38 hx (hb hby at_114) (v := (.ref b1)) rfl rfl (n := 116) rfl ?_
    refine o_aload X38 hx (hb hby at_116) (v := (.ref b6)) rfl rfl (n := 118) rfl ?_
    refine o_iload X38 hx (hb hby at_118) (v := off) rfl (n := 120) rfl ?_
    refine o_callS X38 hx hZ hown (hw _ (List.mem_of_getElem? (i := 2) rfl)) (hw _ (List.mem_of_getElem? (i := 3) rfl)) (hw _ (List.mem_of_getElem? (i := 4) rfl)) (hw _ (List.mem_of_getElem? (i := 5) rfl)) (by decide) e38 (argsL := [(.ref b1), (.ref b6), (.int off)]) (rest := []) (c_format_0 l Z a0 hw b1 k1 b6 k6 d0 k3 y0 y1 f off h38 n0 zz38 gg6 f41 V38 f39 f40 ne8 ne7 (h_off ▸ o_mod7 p3)) 0 (by decide) (by decide) (by decide) (by decide) (by rw [hml]; rfl) (lenOf o_pd0 rfl) rfl (Nat.le_of_eq rfl) (hb hby at_120) (n := 123) rfl ?_
    intro v43 T43 L43 X43 q43
    obtain ⟨rfl, Nq43, K43, o43_0⟩ := q43
    have N44 := Fr.app N42 Nq43
    have f45 := o_sta_keep f39 K43 (allS (P := fun a => ∀ cl : Cell, h38[a]? = some cl → cl.vm.isStatics = false) (o_arv_ns V38) all0)
    have f46 := f40.keep K43 (ninS ne7 nin0)
    have f47 := f41.keep K43 (ninS ne8 nin0)
    have zz43 : n0 ≤ T43.heap.size := Nat.le_trans zz38 K43.1
    show Goes p e below s _ _ _ (T43.setTop (mkF m 123 #[.val (.int p0), .val (.int p1), .val (.int p2), .val (.int p3), .val (.int p4), .val (.int (0 : Int32)), .val (.int y0), .val (.int y1), .val (.int f), .val (.ref b1), .val (.ref b6), .val (.int off), .unset] [(.int (off + (0 : Int32)))]))
    refine o_istore X43 hx (hb hby at_123) (Ls' := #[.val (.int p0), .val (.int p1), .val (.int p2), .val (.int p3), .val (.int p4), .val (.int (0 : Int32)), .val (.int y0), .val (.int y1), .val (.int f), .val (.ref b1), .val (.ref b6), .val (.int off), .val (.int (off + (0 : Int32)))]) rfl (n := 125) rfl ?_
    refine o_iload X43 hx (hb hby at_125) (v := (off + (0 : Int32))) rfl (n := 127) rfl ?_
    refine o_iload X43 hx (hb hby at_127) (v := off) rfl (n := 129) rfl ?_
    refine o_iconst X43 hx (hb hby at_129) (v := (2 : Int32)) rfl (n := 130) rfl ?_
    refine o_iload X43 hx (hb hby at_130) (v := (0 : Int32)) rfl (n := 132) rfl ?_
    refine o_imul X43 hx (hb hby at_132) (v := (0 : Int32)) (by decide) (n := 133) rfl ?_
    refine o_iadd X43 hx (hb hby at_133) (v := (off + (0 : Int32))) rfl (n := 134) rfl ?_
    refine o_icmpY X43 hx (hb hby at_134) (XT.ii_eq_t rfl) (by decide) (n := 139) (by decide) ?_
    refine o_aload X43 hx (hb hby at_139) (v := (.ref b6)) rfl rfl (n := 141) rfl ?_
    refine o_iconst X43 hx (hb hby at_141) (v := (0 : Int32)) rfl (n := 142) rfl ?_
    refine o_baload X43 hx hZ (rfl : T43.heap = T43.heap) o43_0 (0) (by decide) (by decide) (v := (.int (o_ex (0 : Int32) off (0 : Int32) y0 y1 f))) rfl (hb hby at_142) (n := 143) rfl ?_
    refine o_iconst X43 hx (hb hby at_143) (v := (0 : Int32)) rfl (n := 144) rfl ?_
    refine o_iload X43 hx (hb hby at_144) (v := off) rfl (n := 146) rfl ?_
    refine o_iload X43 hx (hb hby at_146) (v := (0 : Int32)) rfl (n := 148) rfl ?_
    refine o_iload X43 hx (hb hby at_148) (v := y0) rfl (n := 150) rfl ?_
    refine o_iload X43 hx (hb hby at_150) (v := y1) rfl (n := 152) rfl ?_
    refine o_iload X43 hx (hb hby at_152) (v := f) rfl (n := 154) rfl ?_
    refine o_callS X43 hx hZ hown (hw _ (List.mem_of_getElem? (i := 6) rfl)) (hw _ (List.mem_of_getElem? (i := 7) rfl)) (hw _ (List.mem_of_getElem? (i := 8) rfl)) (hw _ (List.mem_of_getElem? (i := 9) rfl)) (by decide) (rfl : T43.heap = T43.heap) (argsL := [(.int (0 : Int32)), (.int off), (.int (0 : Int32)), (.int y0), (.int y1), (.int f)]) (rest := [(.int (o_ex (0 : Int32) off (0 : Int32) y0 y1 f))]) (c_expected l Z a0 hw (0 : Int32) off (0 : Int32) y0 y1 f T43.heap hf8) 1 (by decide) (by decide) (by decide) (by decide) (by rw [hml]; rfl) (lenOf o_pd1 rfl) rfl (Nat.le_of_eq rfl) (hb hby at_154) (n := 157) rfl ?_
    intro v49 T49 L49 X49 q49
    obtain ⟨rfl, e49, rfl⟩ := q49
    have N50 := Fr.app N44 (Fr.nil n0)
    show Goes p e below s _ _ _ (T49.setTop (mkF m 157 #[.val (.int p0), .val (.int p1), .val (.int p2), .val (.int p3), .val (.int p4), .val (.int (0 : Int32)), .val (.int y0), .val (.int y1), .val (.int f), .val (.ref b1), .val (.ref b6), .val (.int off), .val (.int (off + (0 : Int32)))] [(.int (o_ex (0 : Int32) off (0 : Int32) y0 y1 f)), (.int (o_ex (0 : Int32) off (0 : Int32) y0 y1 f))]))
    refine o_icmpY X49 hx (hb hby at_157) (XT.ii_eq_t rfl) (by decide) (n := 162) (by decide) ?_
    refine o_aload X49 hx (hb hby at_162) (v := (.ref b6)) rfl rfl (n := 164) rfl ?_
    refine o_iconst X49 hx (hb hby at_164) (v := (1 : Int32)) rfl (n := 165) rfl ?_
    refine o_baload X49 hx hZ e49 o43_0 (1) (by decide) (by decide) (v := (.int (o_ex (1 : Int32) off (0 : Int32) y0 y1 f))) rfl (hb hby at_165) (n := 166) rfl ?_
    refine o_iconst X49 hx (hb hby at_166) (v := (1 : Int32)) rfl (n := 167) rfl ?_
    refine o_iload X49 hx (hb hby at_167) (v := off) rfl (n := 169) rfl ?_
    refine o_iload X49 hx (hb hby at_169) (v := (0 : Int32)) rfl (n := 171) rfl ?_
    refine o_iload X49 hx (hb hby at_171) (v := y0) rfl (n := 173) rfl ?_
    refine o_iload X49 hx (hb hby at_173) (v := y1) rfl (n := 175) rfl ?_
    refine o_iload X49 hx (hb hby at_175) (v := f) rfl (n := 177) rfl ?_
    refine o_callS X49 hx hZ hown (hw _ (List.mem_of_getElem? (i := 6) rfl)) (hw _ (List.mem_of_getElem? (i := 7) rfl)) (hw _ (List.mem_of_getElem? (i := 8) rfl)) (hw _ (List.mem_of_getElem? (i := 9) rfl)) (by decide) e49 (argsL := [(.int (1 : Int32)), (.int off), (.int (0 : Int32)), (.int y0), (.int y1), (.int f)]) (rest := [(.int (o_ex (1 : Int32) off (0 : Int32) y0 y1 f))]) (c_expected l Z a0 hw (1 : Int32) off (0 : Int32) y0 y1 f T43.heap hf8) 1 (by decide) (by decide) (by decide) (by decide) (by rw [hml]; rfl) (lenOf o_pd1 rfl) rfl (Nat.le_of_eq rfl) (hb hby at_177) (n := 180) rfl ?_
    intro v51 T51 L51 X51 q51
    obtain ⟨rfl, e51, rfl⟩ := q51
    have N52 := Fr.app N50 (Fr.nil n0)
    show Goes p e below s _ _ _ (T51.setTop (mkF m 180 #[.val (.int p0), .val (.int p1), .val (.int p2), .val (.int p3), .val (.int p4), .val (.int (0 : Int32)), .val (.int y0), .val (.int y1), .val (.int f), .val (.ref b1), .val (.ref b6), .val (.int off), .val (.int (off + (0 : Int32)))] [(.int (o_ex (1 : Int32) off (0 : Int32) y0 y1 f)), (.int (o_ex (1 : Int32) off (0 : Int32) y0 y1 f))]))
    refine o_icmpY X51 hx (hb hby at_180) (XT.ii_eq_t rfl) (by decide) (n := 185) (by decide) ?_
    refine o_aload X51 hx (hb hby at_185) (v := (.ref b6)) rfl rfl (n := 187) rfl ?_
    refine o_iconst X51 hx (hb hby at_187) (v := (2 : Int32)) rfl (n := 188) rfl ?_
    refine o_baload X51 hx hZ e51 o43_0 (2) (by decide) (by decide) (v := (.int (o_ex (2 : Int32) off (0 : Int32) y0 y1 f))) rfl (hb hby at_188) (n := 189) rfl ?_
    refine o_iconst X51 hx (hb hby at_189) (v := (2 : Int32)) rfl (n := 190) rfl ?_
    refine o_iload X51 hx (hb hby at_190) (v := off) rfl (n := 192) rfl ?_
    refine o_iload X51 hx (hb hby at_192) (v := (0 : Int32)) rfl (n := 194) rfl ?_
    refine o_iload X51 hx (hb hby at_194) (v := y0) rfl (n := 196) rfl ?_
    refine o_iload X51 hx (hb hby at_196) (v := y1) rfl (n := 198) rfl ?_
    refine o_iload X51 hx (hb hby at_198) (v := f) rfl (n := 200) rfl ?_
    refine o_callS X51 hx hZ hown (hw _ (List.mem_of_getElem? (i := 6) rfl)) (hw _ (List.mem_of_getElem? (i := 7) rfl)) (hw _ (List.mem_of_getElem? (i := 8) rfl)) (hw _ (List.mem_of_getElem? (i := 9) rfl)) (by decide) e51 (argsL := [(.int (2 : Int32)), (.int off), (.int (0 : Int32)), (.int y0), (.int y1), (.int f)]) (rest := [(.int (o_ex (2 : Int32) off (0 : Int32) y0 y1 f))]) (c_expected l Z a0 hw (2 : Int32) off (0 : Int32) y0 y1 f T43.heap hf8) 1 (by decide) (by decide) (by decide) (by decide) (by rw [hml]; rfl) (lenOf o_pd1 rfl) rfl (Nat.le_of_eq rfl) (hb hby at_200) (n := 203) rfl ?_
    intro v53 T53 L53 X53 q53
    obtain ⟨rfl, e53, rfl⟩ := q53
    have N54 := Fr.app N52 (Fr.nil n0)
    show Goes p e below s _ _ _ (T53.setTop (mkF m 203 #[.val (.int p0), .val (.int p1), .val (.int p2), .val (.int p3), .val (.int p4), .val (.int (0 : Int32)), .val (.int y0), .val (.int y1), .val (.int f), .val (.ref b1), .val (.ref b6), .val (.int off), .val (.int (off + (0 : Int32)))] [(.int (o_ex (2 : Int32) off (0 : Int32) y0 y1 f)), (.int (o_ex (2 : Int32) off (0 : Int32) y0 y1 f))]))
    refine o_icmpY X53 hx (hb hby at_203) (XT.ii_eq_t rfl) (by decide) (n := 208) (by decide) ?_
    refine o_aload X53 hx (hb hby at_208) (v := (.ref b6)) rfl rfl (n := 210) rfl ?_
    refine o_iconst X53 hx (hb hby at_210) (v := (3 : Int32)) rfl (n := 211) rfl ?_
    refine o_baload X53 hx hZ e53 o43_0 (3) (by decide) (by decide) (v := (.int (o_ex (3 : Int32) off (0 : Int32) y0 y1 f))) rfl (hb hby at_211) (n := 212) rfl ?_
    refine o_iconst X53 hx (hb hby at_212) (v := (3 : Int32)) rfl (n := 213) rfl ?_
    refine o_iload X53 hx (hb hby at_213) (v := off) rfl (n := 215) rfl ?_
    refine o_iload X53 hx (hb hby at_215) (v := (0 : Int32)) rfl (n := 217) rfl ?_
    refine o_iload X53 hx (hb hby at_217) (v := y0) rfl (n := 219) rfl ?_
    refine o_iload X53 hx (hb hby at_219) (v := y1) rfl (n := 221) rfl ?_
    refine o_iload X53 hx (hb hby at_221) (v := f) rfl (n := 223) rfl ?_
    refine o_callS X53 hx hZ hown (hw _ (List.mem_of_getElem? (i := 6) rfl)) (hw _ (List.mem_of_getElem? (i := 7) rfl)) (hw _ (List.mem_of_getElem? (i := 8) rfl)) (hw _ (List.mem_of_getElem? (i := 9) rfl)) (by decide) e53 (argsL := [(.int (3 : Int32)), (.int off), (.int (0 : Int32)), (.int y0), (.int y1), (.int f)]) (rest := [(.int (o_ex (3 : Int32) off (0 : Int32) y0 y1 f))]) (c_expected l Z a0 hw (3 : Int32) off (0 : Int32) y0 y1 f T43.heap hf8) 1 (by decide) (by decide) (by decide) (by decide) (by rw [hml]; rfl) (lenOf o_pd1 rfl) rfl (Nat.le_of_eq rfl) (hb hby at_223) (n := 226) rfl ?_
    intro v55 T55 L55 X55 q55
    obtain ⟨rfl, e55, rfl⟩ := q55
    have N56 := Fr.app N54 (Fr.nil n0)
    show Goes p e below s _ _ _ (T55.setTop (mkF m 226 #[.val (.int p0), .val (.int p1), .val (.int p2), .val (.int p3), .val (.int p4), .val (.int (0 : Int32)), .val (.int y0), .val (.int y1), .val (.int f), .val (.ref b1), .val (.ref b6), .val (.int off), .val (.int (off + (0 : Int32)))] [(.int (o_ex (3 : Int32) off (0 : Int32) y0 y1 f)), (.int (o_ex (3 : Int32) off (0 : Int32) y0 y1 f))]))
    refine o_icmpY X55 hx (hb hby at_226) (XT.ii_eq_t rfl) (by decide) (n := 231) (by decide) ?_
    refine o_aload X55 hx (hb hby at_231) (v := (.ref b6)) rfl rfl (n := 233) rfl ?_
    refine o_iconst X55 hx (hb hby at_233) (v := (4 : Int32)) rfl (n := 234) rfl ?_
    refine o_baload X55 hx hZ e55 o43_0 (4) (by decide) (by decide) (v := (.int (o_ex (4 : Int32) off (0 : Int32) y0 y1 f))) rfl (hb hby at_234) (n := 235) rfl ?_
    refine o_iconst X55 hx (hb hby at_235) (v := (4 : Int32)) rfl (n := 236) rfl ?_
    refine o_iload X55 hx (hb hby at_236) (v := off) rfl (n := 238) rfl ?_
    refine o_iload X55 hx (hb hby at_238) (v := (0 : Int32)) rfl (n := 240) rfl ?_
    refine o_iload X55 hx (hb hby at_240) (v := y0) rfl (n := 242) rfl ?_
    refine o_iload X55 hx (hb hby at_242) (v := y1) rfl (n := 244) rfl ?_
    refine o_iload X55 hx (hb hby at_244) (v := f) rfl (n := 246) rfl ?_
    refine o_callS X55 hx hZ hown (hw _ (List.mem_of_getElem? (i := 6) rfl)) (hw _ (List.mem_of_getElem? (i := 7) rfl)) (hw _ (List.mem_of_getElem? (i := 8) rfl)) (hw _ (List.mem_of_getElem? (i := 9) rfl)) (by decide) e55 (argsL := [(.int (4 : Int32)), (.int off), (.int (0 : Int32)), (.int y0), (.int y1), (.int f)]) (rest := [(.int (o_ex (4 : Int32) off (0 : Int32) y0 y1 f))]) (c_expected l Z a0 hw (4 : Int32) off (0 : Int32) y0 y1 f T43.heap hf8) 1 (by decide) (by decide) (by decide) (by decide) (by rw [hml]; rfl) (lenOf o_pd1 rfl) rfl (Nat.le_of_eq rfl) (hb hby at_246) (n := 249) rfl ?_
    intro v57 T57 L57 X57 q57
    obtain ⟨rfl, e57, rfl⟩ := q57
    have N58 := Fr.app N56 (Fr.nil n0)
    show Goes p e below s _ _ _ (T57.setTop (mkF m 249 #[.val (.int p0), .val (.int p1), .val (.int p2), .val (.int p3), .val (.int p4), .val (.int (0 : Int32)), .val (.int y0), .val (.int y1), .val (.int f), .val (.ref b1), .val (.ref b6), .val (.int off), .val (.int (off + (0 : Int32)))] [(.int (o_ex (4 : Int32) off (0 : Int32) y0 y1 f)), (.int (o_ex (4 : Int32) off (0 : Int32) y0 y1 f))]))
    refine o_icmpY X57 hx (hb hby at_249) (XT.ii_eq_t rfl) (by decide) (n := 254) (by decide) ?_
    refine o_aload X57 hx (hb hby at_254) (v := (.ref b6)) rfl rfl (n := 256) rfl ?_
    refine o_iconst X57 hx (hb hby at_256) (v := (5 : Int32)) rfl (n := 257) rfl ?_
    refine o_baload X57 hx hZ e57 o43_0 (5) (by decide) (by decide) (v := (.int (o_ex (5 : Int32) off (0 : Int32) y0 y1 f))) rfl (hb hby at_257) (n := 258) rfl ?_
    refine o_iconst X57 hx (hb hby at_258) (v := (5 : Int32)) rfl (n := 259) rfl ?_
    refine o_iload X57 hx (hb hby at_259) (v := off) rfl (n := 261) rfl ?_
    refine o_iload X57 hx (hb hby at_261) (v := (0 : Int32)) rfl (n := 263) rfl ?_
    refine o_iload X57 hx (hb hby at_263) (v := y0) rfl (n := 265) rfl ?_
    refine o_iload X57 hx (hb hby at_265) (v := y1) rfl (n := 267) rfl ?_
    refine o_iload X57 hx (hb hby at_267) (v := f) rfl (n := 269) rfl ?_
    refine o_callS X57 hx hZ hown (hw _ (List.mem_of_getElem? (i := 6) rfl)) (hw _ (List.mem_of_getElem? (i := 7) rfl)) (hw _ (List.mem_of_getElem? (i := 8) rfl)) (hw _ (List.mem_of_getElem? (i := 9) rfl)) (by decide) e57 (argsL := [(.int (5 : Int32)), (.int off), (.int (0 : Int32)), (.int y0), (.int y1), (.int f)]) (rest := [(.int (o_ex (5 : Int32) off (0 : Int32) y0 y1 f))]) (c_expected l Z a0 hw (5 : Int32) off (0 : Int32) y0 y1 f T43.heap hf8) 1 (by decide) (by decide) (by decide) (by decide) (by rw [hml]; rfl) (lenOf o_pd1 rfl) rfl (Nat.le_of_eq rfl) (hb hby at_269) (n := 272) rfl ?_
    intro v59 T59 L59 X59 q59
    obtain ⟨rfl, e59, rfl⟩ := q59
    have N60 := Fr.app N58 (Fr.nil n0)
    show Goes p e below s _ _ _ (T59.setTop (mkF m 272 #[.val (.int p0), .val (.int p1), .val (.int p2), .val (.int p3), .val (.int p4), .val (.int (0 : Int32)), .val (.int y0), .val (.int y1), .val (.int f), .val (.ref b1), .val (.ref b6), .val (.int off), .val (.int (off + (0 : Int32)))] [(.int (o_ex (5 : Int32) off (0 : Int32) y0 y1 f)), (.int (o_ex (5 : Int32) off (0 : Int32) y0 y1 f))]))
    refine o_icmpY X59 hx (hb hby at_272) (XT.ii_eq_t rfl) (by decide) (n := 277) (by decide) ?_
    refine o_iload X59 hx (hb hby at_277) (v := (0 : Int32)) rfl (n := 279) rfl ?_
    refine o_iconst X59 hx (hb hby at_279) (v := (1 : Int32)) rfl (n := 280) rfl ?_
    refine o_icmpY X59 hx (hb hby at_280) (XT.ii_lt_t (by decide)) (by decide) (n := 294) (by decide) ?_
    refine o_iload X59 hx (hb hby at_294) (v := (0 : Int32)) rfl (n := 296) rfl ?_
    refine o_iconst X59 hx (hb hby at_296) (v := (2 : Int32)) rfl (n := 297) rfl ?_
    refine o_icmpY X59 hx (hb hby at_297) (XT.ii_ne_t (by decide)) (by decide) (n := 311) (by decide) ?_
    refine o_iconst X59 hx (hb hby at_311) (v := (1 : Int32)) rfl (n := 312) rfl ?_
    exact o_nreturn X59 hx hret hlk (t := .boolean) (by simp) (hb hby at_312) (by decide) (by decide) e59 ⟨rfl, N60⟩
  · refine o_iloadN X0 hx (hb hby at_0) (v := p0) rfl (n := 1) rfl ?_
    refine o_ldc X0 hx hZ (v := (2147483647 : Int32)) hown (hw _ (List.mem_of_getElem? (i := 0) rfl)) (hb hby at_1) (n := 3) rfl ?_
    refine o_iand X0 hx (hb hby at_3) (v := (p0 &&& (2147483647 : Int32))) rfl (n := 4) rfl ?_
    refine o_iconst X0 hx (hb hby at_4) (v := (3 : Int32)) rfl (n := 5) rfl ?_
    refine o_irem X0 hx (hb hby at_5) (by decide) (v := (1 : Int32)) q (n := 6) rfl ?_
    refine o_istore X0 hx (hb hby at_6) (Ls' := #[.val (.int p0), .val (.int p1), .val (.int p2), .val (.int p3), .val (.int p4), .val (.int (1 : Int32)), .unset, .unset, .unset, .unset, .unset, .unset, .unset]) rfl (n := 8) rfl ?_
    refine o_iloadN X0 hx (hb hby at_8) (v := p1) rfl (n := 9) rfl ?_
    refine o_i2b X0 hx (hb hby at_9) (v := p1.toInt8.toInt32) rfl (n := 10) rfl ?_
    refine o_istore X0 hx (hb hby at_10) (Ls' := #[.val (.int p0), .val (.int p1), .val (.int p2), .val (.int p3), .val (.int p4), .val (.int (1 : Int32)), .val (.int p1.toInt8.toInt32), .unset, .unset, .unset, .unset, .unset, .unset]) rfl (n := 12) rfl ?_
    generalize h_y0 : p1.toInt8.toInt32 = y0
    refine o_iloadN X0 hx (hb hby at_12) (v := p2) rfl (n := 13) rfl ?_
    refine o_i2b X0 hx (hb hby at_13) (v := p2.toInt8.toInt32) rfl (n := 14) rfl ?_
    refine o_istore X0 hx (hb hby at_14) (Ls' := #[.val (.int p0), .val (.int p1), .val (.int p2), .val (.int p3), .val (.int p4), .val (.int (1 : Int32)), .val (.int y0), .val (.int p2.toInt8.toInt32), .unset, .unset, .unset, .unset, .unset]) rfl (n := 16) rfl ?_
    generalize h_y1 : p2.toInt8.toInt32 = y1
    refine o_iload X0 hx (hb hby at_16) (v := p4) rfl (n := 18) rfl ?_
    refine o_i2b X0 hx (hb hby at_18) (v := p4.toInt8.toInt32) rfl (n := 19) rfl ?_
    refine o_istore X0 hx (hb hby at_19) (Ls' := #[.val (.int p0), .val (.int p1), .val (.int p2), .val (.int p3), .val (.int p4), .val (.int (1 : Int32)), .val (.int y0), .val (.int y1), .val (.int p4.toInt8.toInt32), .unset, .unset, .unset, .unset]) rfl (n := 21) rfl ?_
    generalize h_f : p4.toInt8.toInt32 = f
    have hy08 : nar .byte y0 = y0 := h_y0 ▸ o_nar8 p1
    have hy18 : nar .byte y1 = y1 := h_y1 ▸ o_nar8 p2
    have hf8 : nar .byte f = f := h_f ▸ o_nar8 p4
    refine o_iload X0 hx (hb hby at_21) (v := (1 : Int32)) rfl (n := 23) rfl ?_
    refine o_ifY X0 hx (hb hby at_23) (XT.i0_ne_t (by decide)) (by decide) (n := 32) (by decide) ?_
    refine o_iload X0 hx (hb hby at_32) (v := (1 : Int32)) rfl (n := 34) rfl ?_
    refine o_iconst X0 hx (hb hby at_34) (v := (1 : Int32)) rfl (n := 35) rfl ?_
    refine o_icmpN X0 hx (hb hby at_35) (XT.ii_ne_f (by decide)) (n := 38) rfl ?_
    refine o_iconst X0 hx (hb hby at_38) (v := (1 : Int32)) rfl (n := 39) rfl ?_
    refine o_newarray X0 hx hZ (aty := .byte) (hw _ (List.mem_of_getElem? (i := 1) rfl)) e0 (hb hby at_39) (by decide) 1 (by decide) (by decide) (by decide) (by decide) (n := 41) rfl ?_
    intro T61 h61 b61 k61 X61 e61 g61 E61 V61
    have ne62 : d0 ≠ b61 := Nat.ne_of_lt (Nat.lt_of_lt_of_eq pV_d0.lt g61.symm)
    have gg61 : n0 ≤ b61 := Nat.le_trans Z0 (Nat.le_of_eq g61.symm)
    have zz61 : n0 ≤ h61.size := Nat.le_trans Z0 E61.1
    have f63 := pS_UPPER_CASE_DIGITS.ext E61
    have f64 := pV_d0.ext E61
    have f65 : Arv Z h61 b61 k61 .byte (1 : Int32) [(.int (0 : Int32))] (.int (0 : Int32)) := V61.pad (pad_rep [] (.int (0 : Int32)) 1)
    refine o_dup X61 hx (hb hby at_41) rfl (n := 42) rfl ?_
    refine o_iconst X61 hx (hb hby at_42) (v := (0 : Int32)) rfl (n := 43) rfl ?_
    refine o_iload X61 hx (hb hby at_43) (v := y0) rfl (n := 45) rfl ?_
    refine o_bastore X61 hx hZ e61 f65 (0) (by decide) (by decide) (Nat.le_of_ble_eq_true rfl) (w := (.int y0)) (congrArg Value.int hy08) (vs' := [(.int y0)]) rfl (hb hby at_45) (n := 46) rfl ?_
    intro T66 h66 X66 e66 W66 V66
    have f67 := f63.wr W66
    have f68 := f64.other W66 ne62
    have zz66 : n0 ≤ h66.size := Nat.le_trans zz61 (Nat.le_of_eq W66.size.symm)
    have N69 := Fr.snoc X66 N0 gg61
    refine o_goto X66 hx (hb hby at_46) (by decide) (n := 62) (by decide) ?_
    refine o_astore X66 hx (hb hby at_62) rfl (Ls' := #[.val (.int p0), .val (.int p1), .val (.int p2), .val (.int p3), .val (.int p4), .val (.int (1 : Int32)), .val (.int y0), .val (.int y1), .val (.int f), .val (.ref b61), .unset, .unset, .unset]) rfl (n := 64) rfl ?_
    refine o_bipush X66 hx (hb hby at_64) (v := (6 : Int32)) rfl (n := 66) rfl ?_
    refine o_newarray X66 hx hZ (aty := .byte) (hw _ (List.mem_of_getElem? (i := 1) rfl)) e66 (hb hby at_66) (by decide) 6 (by decide) (by decide) (by decide) (by decide) (n := 68) rfl ?_
    intro T70 h70 b70 k70 X70 e70 g70 E70 V70
    have ne71 : d0 ≠ b70 := Nat.ne_of_lt (Nat.lt_of_lt_of_eq f68.lt g70.symm)
    have ne72 : b61 ≠ b70 := Nat.ne_of_lt (Nat.lt_of_lt_of_eq V66.lt g70.symm)
    have gg70 : n0 ≤ b70 := Nat.le_trans zz66 (Nat.le_of_eq g70.symm)
    have zz70 : n0 ≤ h70.size := Nat.le_trans zz66 E70.1
    have f73 := f67.ext E70
    have f74 := f68.ext E70
    have f75 := V66.ext E70
    have f76 : Arv Z h70 b70 k70 .byte (6 : Int32) [(.int (0 : Int32)), (.int (0 : Int32)), (.int (0 : Int32)), (.int (0 : Int32)), (.int (0 : Int32)), (.int (0 : Int32))] (.int (0 : Int32)) := V70.pad (pad_rep [] (.int (0 : Int32)) 6)
    refine o_dup X70 hx (hb hby at_68) rfl (n := 69) rfl ?_
    refine o_iconst X70 hx (hb hby at_69) (v := (0 : Int32)) rfl (n := 70) rfl ?_
    refine o_iload X70 hx (hb hby at_70) (v := f) rfl (n := 72) rfl ?_
    refine o_bastore X70 hx hZ e70 f76 (0) (by decide) (by decide) (Nat.le_of_ble_eq_true rfl) (w := (.int f)) (congrArg Value.int hf8) (vs' := [(.int f), (.int (0 : Int32)), (.int (0 : Int32)), (.int (0 : Int32)), (.int (0 : Int32)), (.int (0 : Int32))]) rfl (hb hby at_72) (n := 73) rfl ?_
    intro T77 h77 X77 e77 W77 V77
    have f78 := f73.wr W77
    have f79 := f74.other W77 ne71
    have f80 := f75.other W77 ne72
    have zz77 : n0 ≤ h77.size := Nat.le_trans zz70 (Nat.le_of_eq W77.size.symm)
    have N81 := Fr.snoc X77 N69 gg70
    refine o_dup X77 hx (hb hby at_73) rfl (n := 74) rfl ?_
    refine o_iconst X77 hx (hb hby at_74) (v := (1 : Int32)) rfl (n := 75) rfl ?_
    refine o_iload X77 hx (hb hby at_75) (v := f) rfl (n := 77) rfl ?_
    refine o_bastore X77 hx hZ e77 V77 (1) (by decide) (by decide) (Nat.le_of_ble_eq_true rfl) (w := (.int f)) (congrArg Value.int hf8) (vs' := [(.int f), (.int f), (.int (0 : Int32)), (.int (0 : Int32)), (.int (0 : Int32)), (.int (0 : Int32))]) rfl (hb hby at_77) (n := 78) rfl ?_
    intro T82 h82 X82 e82 W82 V82
    have f83 := f78.wr W82
    have f84 := f79.other W82 ne71
    have f85 := f80.other W82 ne72
    have zz82 : n0 ≤ h82.size := Nat.le_trans zz77 (Nat.le_of_eq W82.size.symm)
    have N86 := Fr.snoc X82 N81 gg70
    refine o_dup X82 hx (hb hby at_78) rfl (n := 79) rfl ?_
    refine o_iconst X82 hx (hb hby at_79) (v := (2 : Int32)) rfl (n := 80) rfl ?_
    refine o_iload X82 hx (hb hby at_80) (v := f) rfl (n := 82) rfl ?_
    refine o_bastore X82 hx hZ e82 V82 (2) (by decide) (by decide) (Nat.le_of_ble_eq_true rfl) (w := (.int f)) (congrArg Value.int hf8) (vs' := [(.int f), (.int f), (.int f), (.int (0 : Int32)), (.int (0 : Int32)), (.int (0 : Int32))]) rfl (hb hby at_82) (n := 83) rfl ?_
    intro T87 h87 X87 e87 W87 V87
    have f88 := f83.wr W87
    have f89 := f84.other W87 ne71
    have f90 := f85.other W87 ne72
    have zz87 : n0 ≤ h87.size := Nat.le_trans zz82 (Nat.le_of_eq W87.size.symm)
    have N91 := Fr.snoc X87 N86 gg70
    refine o_dup X87 hx (hb hby at_83) rfl (n := 84) rfl ?_
    refine o_iconst X87 hx (hb hby at_84) (v := (3 : Int32)) rfl (n := 85) rfl ?_
    refine o_iload X87 hx (hb hby at_85) (v := f) rfl (n := 87) rfl ?_
    refine o_bastore X87 hx hZ e87 V87 (3) (by decide) (by decide) (Nat.le_of_ble_eq_true rfl) (w := (.int f)) (congrArg Value.int hf8) (vs' := [(.int f), (.int f), (.int f), (.int f), (.int (0 : Int32)), (.int (0 : Int32))]) rfl (hb hby at_87) (n := 88) rfl ?_
    intro T92 h92 X92 e92 W92 V92
    have f93 := f88.wr W92
    have f94 := f89.other W92 ne71
    have f95 := f90.other W92 ne72
    have zz92 : n0 ≤ h92.size := Nat.le_trans zz87 (Nat.le_of_eq W92.size.symm)
    have N96 := Fr.snoc X92 N91 gg70
    refine o_dup X92 hx (hb hby at_88) rfl (n := 89) rfl ?_
    refine o_iconst X92 hx (hb hby at_89) (v := (4 : Int32)) rfl (n := 90) rfl ?_
    refine o_iload X92 hx (hb hby at_90) (v := f) rfl (n := 92) rfl ?_
    refine o_bastore X92 hx hZ e92 V92 (4) (by decide) (by decide) (Nat.le_of_ble_eq_true rfl) (w := (.int f)) (congrArg Value.int hf8) (vs' := [(.int f), (.int f), (.int f), (.int f), (.int f), (.int (0 : Int32))]) rfl (hb hby at_92) (n := 93) rfl ?_
    intro T97 h97 X97 e97 W97 V97
    have f98 := f93.wr W97
    have f99 := f94.other W97 ne71
    have f100 := f95.other W97 ne72
    have zz97 : n0 ≤ h97.size := Nat.le_trans zz92 (Nat.le_of_eq W97.size.symm)
    have N101 := Fr.snoc X97 N96 gg70
    refine o_dup X97 hx (hb hby at_93) rfl (n := 94) rfl ?_
    refine o_iconst X97 hx (hb hby at_94) (v := (5 : Int32)) rfl (n := 95) rfl ?_
    refine o_iload X97 hx (hb hby at_95) (v := f) rfl (n := 97) rfl ?_
    refine o_bastore X97 hx hZ e97 V97 (5) (by decide) (by decide) (Nat.le_of_ble_eq_true rfl) (w := (.int f)) (congrArg Value.int hf8) (vs' := [(.int f), (.int f), (.int f), (.int f), (.int f), (.int f)]) rfl (hb hby at_97) (n := 98) rfl ?_
    intro T102 h102 X102 e102 W102 V102
    have f103 := f98.wr W102
    have f104 := f99.other W102 ne71
    have f105 := f100.other W102 ne72
    have zz102 : n0 ≤ h102.size := Nat.le_trans zz97 (Nat.le_of_eq W102.size.symm)
    have N106 := Fr.snoc X102 N101 gg70
    refine o_astore X102 hx (hb hby at_98) rfl (Ls' := #[.val (.int p0), .val (.int p1), .val (.int p2), .val (.int p3), .val (.int p4), .val (.int (1 : Int32)), .val (.int y0), .val (.int y1), .val (.int f), .val (.ref b61), .val (.ref b70), .unset, .unset]) rfl (n := 100) rfl ?_
    refine o_iloadN X102 hx (hb hby at_100) (v := p3) rfl (n := 101) rfl ?_
    refine o_ldc X102 hx hZ (v := (2147483647 : Int32)) hown (hw _ (List.mem_of_getElem? (i := 0) rfl)) (hb hby at_101) (n := 103) rfl ?_
    refine o_iand X102 hx (hb hby at_103) (v := (p3 &&& (2147483647 : Int32))) rfl (n := 104) rfl ?_
    refine o_bipush X102 hx (hb hby at_104) (v := (7 : Int32)) rfl (n := 106) rfl ?_
    refine o_iconst X102 hx (hb hby at_106) (v := (2 : Int32)) rfl (n := 107) rfl ?_
    refine o_iload X102 hx (hb hby at_107) (v := (1 : Int32)) rfl (n := 109) rfl ?_
    refine o_imul X102 hx (hb hby at_109) (v := (2 : Int32)) (by decide) (n := 110) rfl ?_
    refine o_isub X102 hx (hb hby at_110) (v := (5 : Int32)) (by decide) (n := 111) rfl ?_
    refine o_irem X102 hx (hb hby at_111) (by decide) (v := ((p3 &&& (2147483647 : Int32)) % (5 : Int32))) rfl (n := 112) rfl ?_
    refine o_istore X102 hx (hb hby at_112) (Ls' := #[.val (.int p0), .val (.int p1), .val (.int p2), .val (.int p3), .val (.int p4), .val (.int (1 : Int32)), .val (.int y0), .val (.int y1), .val (.int f), .val (.ref b61), .val (.ref b70), .val (.int ((p3 &&& (2147483647 : Int32)) % (5 : Int32))), .unset]) rfl (n := 114) rfl ?_
    generalize h_off : ((p3 &&& (2147483647 : Int32)) % (5 : Int32)) = off
    refine o_aload X102 hx (hb hby at_114) (v := (.ref b61)) rfl rfl (n := 116) rfl ?_
    refine o_aload X102 hx (hb hby at_116) (v := (.ref b70)) rfl rfl (n := 118) rfl ?_
    refine o_iload X102 hx (hb hby at_118) (v := off) rfl (n := 120) rfl ?_
    refine o_callS X102 hx hZ hown (hw _ (List.mem_of_getElem? (i := 2) rfl)) (hw _ (List.mem_of_getElem? (i := 3) rfl)) (hw _ (List.mem_of_getElem? (i := 4) rfl)) (hw _ (List.mem_of_getElem? (i := 5) rfl)) (by decide) e102 (argsL := [(.ref b61), (.ref b70), (.int off)]) (rest := []) (c_format_1 l Z a0 hw b61 k61 b70 k70 d0 k3 y0 y1 f off h102 n0 zz102 gg70 f105 V102 f103 f104 ne72 ne71 (h_off ▸ o_mod5 p3)) 0 (by decide) (by decide) (by decide) (by decide) (by rw [hml]; rfl) (lenOf o_pd0 rfl) rfl (Nat.le_of_eq rfl) (hb hby at_120) (n := 123) rfl ?_
    intro v107 T107 L107 X107 q107
    obtain ⟨rfl, Nq107, K107, o107_0⟩ := q107
    have N108 := Fr.app N106 Nq107
    have f109 := o_sta_keep f103 K107 (allS (P := fun a => ∀ cl : Cell, h102[a]? = some cl → cl.vm.isStatics = false) (o_arv_ns V102) all0)
    have f110 := f104.keep K107 (ninS ne71 nin0)
    have f111 := f105.keep K107 (ninS ne72 nin0)
    have zz107 : n0 ≤ T107.heap.size := Nat.le_trans zz102 K107.1
    show Goes p e below s _ _ _ (T107.setTop (mkF m 123 #[.val (.int p0), .val (.int p1), .val (.int p2), .val (.int p3), .val (.int p4), .val (.int (1 : Int32)), .val (.int y0), .val (.int y1), .val (.int f), .val (.ref b61), .val (.ref b70), .val (.int off), .unset] [(.int (off + (2 : Int32)))]))
    refine o_istore X107 hx (hb hby at_123) (Ls' := #[.val (.int p0), .val (.int p1), .val (.int p2), .val (.int p3), .val (.int p4), .val (.int (1 : Int32)), .val (.int y0), .val (.int y1), .val (.int f), .val (.ref b61), .val (.ref b70), .val (.int off), .val (.int (off + (2 : Int32)))]) rfl (n := 125) rfl ?_
    refine o_iload X107 hx (hb hby at_125) (v := (off + (2 : Int32))) rfl (n := 127) rfl ?_
    refine o_iload X107 hx (hb hby at_127) (v := off) rfl (n := 129) rfl ?_
    refine o_iconst X107 hx (hb hby at_129) (v := (2 : Int32)) rfl (n := 130) rfl ?_
    refine o_iload X107 hx (hb hby at_130) (v := (1 : Int32)) rfl (n := 132) rfl ?_
    refine o_imul X107 hx (hb hby at_132) (v := (2 : Int32)) (by decide) (n := 133) rfl ?_
    refine o_iadd X107 hx (hb hby at_133) (v := (off + (2 : Int32))) rfl (n := 134) rfl ?_
    refine o_icmpY X107 hx (hb hby at_134) (XT.ii_eq_t rfl) (by decide) (n := 139) (by decide) ?_
    refine o_aload X107 hx (hb hby at_139) (v := (.ref b70)) rfl rfl (n := 141) rfl ?_
    refine o_iconst X107 hx (hb hby at_141) (v := (0 : Int32)) rfl (n := 142) rfl ?_
    refine o_baload X107 hx hZ (rfl : T107.heap = T107.heap) o107_0 (0) (by decide) (by decide) (v := (.int (o_ex (0 : Int32) off (1 : Int32) y0 y1 f))) rfl (hb hby at_142) (n := 143) rfl ?_
    refine o_iconst X107 hx (hb hby at_143) (v := (0 : Int32)) rfl (n := 144) rfl ?_
    refine o_iload X107 hx (hb hby at_144) (v := off) rfl (n := 146) rfl ?_
    refine o_iload X107 hx (hb hby at_146) (v := (1 : Int32)) rfl (n := 148) rfl ?_
    refine o_iload X107 hx (hb hby at_148) (v := y0) rfl (n := 150) rfl ?_
    refine o_iload X107 hx (hb hby at_150) (v := y1) rfl (n := 152) rfl ?_
    refine o_iload X107 hx (hb hby at_152) (v := f) rfl (n := 154) rfl ?_
    refine o_callS X107 hx hZ hown (hw _ (List.mem_of_getElem? (i := 6) rfl)) (hw _ (List.mem_of_getElem? (i := 7) rfl)) (hw _ (List.mem_of_getElem? (i := 8) rfl)) (hw _ (List.mem_of_getElem? (i := 9) rfl)) (by decide) (rfl : T107.heap = T107.heap) (argsL := [(.int (0 : Int32)), (.int off), (.int (1 : Int32)), (.int y0), (.int y1), (.int f)]) (rest := [(.int (o_ex (0 : Int32) off (1 : Int32) y0 y1 f))]) (c_expected l Z a0 hw (0 : Int32) off (1 : Int32) y0 y1 f T107.heap hf8) 1 (by decide) (by decide) (by decide) (by decide) (by rw [hml]; rfl) (lenOf o_pd1 rfl) rfl (Nat.le_of_eq rfl) (hb hby at_154) (n := 157) rfl ?_
    intro v113 T113 L113 X113 q113
    obtain ⟨rfl, e113, rfl⟩ := q113
    have N114 := Fr.app N108 (Fr.nil n0)
    show Goes p e below s _ _ _ (T113.setTop (mkF m 157 #[.val (.int p0), .val (.int p1), .val (.int p2), .val (.int p3), .val (.int p4), .val (.int (1 : Int32)), .val (.int y0), .val (.int y1), .val (.int f), .val (.ref b61), .val (.ref b70), .val (.int off), .val (.int (off + (2 : Int32)))] [(.int (o_ex (0 : Int32) off (1 : Int32) y0 y1 f)), (.int (o_ex (0 : Int32) off (1 : Int32) y0 y1 f))]))
    refine o_icmpY X113 hx (hb hby at_157) (XT.ii_eq_t rfl) (by decide) (n := 162) (by decide) ?_
    refine o_aload X113 hx (hb hby at_162) (v := (.ref b70)) rfl rfl (n := 164) rfl ?_
    refine o_iconst X113 hx (hb hby at_164) (v := (1 : Int32)) rfl (n := 165) rfl ?_
    refine o_baload X113 hx hZ e113 o107_0 (1) (by decide) (by decide) (v := (.int (o_ex (1 : Int32) off (1 : Int32) y0 y1 f))) rfl (hb hby at_165) (n := 166) rfl ?_
    refine o_iconst X113 hx (hb hby at_166) (v := (1 : Int32)) rfl (n := 167) rfl ?_
    refine o_iload X113 hx (hb hby at_167) (v := off) rfl (n := 169) rfl ?_
    refine o_iload X113 hx (hb hby at_169) (v := (1 : Int32)) rfl (n := 171) rfl ?_
    refine o_iload X113 hx (hb hby at_171) (v := y0) rfl (n := 173) rfl ?_
    refine o_iload X113 hx (hb hby at_173) (v := y1) rfl (n := 175) rfl ?_
    refine o_iload X113 hx (hb hby at_175) (v := f) rfl (n := 177) rfl ?_
    refine o_callS X113 hx hZ hown (hw _ (List.mem_of_getElem? (i := 6) rfl)) (hw _ (List.mem_of_getElem? (i := 7) rfl)) (hw _ (List.mem_of_getElem? (i := 8) rfl)) (hw _ (List.mem_of_getElem? (i := 9) rfl)) (by decide) e113 (argsL := [(.int (1 : Int32)), (.int off), (.int (1 : Int32)), (.int y0), (.int y1), (.int f)]) (rest := [(.int (o_ex (1 : Int32) off (1 : Int32) y0 y1 f))]) (c_expected l Z a0 hw (1 : Int32) off (1 : Int32) y0 y1 f T107.heap hf8) 1 (by decide) (by decide) (by decide) (by decide) (by rw [hml]; rfl) (lenOf o_pd1 rfl) rfl (Nat.le_of_eq rfl) (hb hby at_177) (n := 180) rfl ?_
    intro v115 T115 L115 X115 q115
    obtain ⟨rfl, e115, rfl⟩ := q115
    have N116 := Fr.app N114 (Fr.nil n0)
    show Goes p e below s _ _ _ (T115.setTop (mkF m 180 #[.val (.int p0), .val (.int p1), .val (.int p2), .val (.int p3), .val (.int p4), .val (.int (1 : Int32)), .val (.int y0), .val (.int y1), .val (.int f), .val (.ref b61), .val (.ref b70), .val (.int off), .val (.int (off + (2 : Int32)))] [(.int (o_ex (1 : Int32) off (1 : Int32) y0 y1 f)), (.int (o_ex (1 : Int32) off (1 : Int32) y0 y1 f))]))
    refine o_icmpY X115 hx (hb hby at_180) (XT.ii_eq_t rfl) (by decide) (n := 185) (by decide) ?_
    refine o_aload X115 hx (hb hby at_185) (v := (.ref b70)) rfl rfl (n := 187) rfl ?_
    refine o_iconst X115 hx (hb hby at_187) (v := (2 : Int32)) rfl (n := 188) rfl ?_
    refine o_baload X115 hx hZ e115 o107_0 (2) (by decide) (by decide) (v := (.int (o_ex (2 : Int32) off (1 : Int32) y0 y1 f))) rfl (hb hby at_188) (n := 189) rfl ?_
    refine o_iconst X115 hx (hb hby at_189) (v := (2 : Int32)) rfl (n := 190) rfl ?_
    refine o_iload X115 hx (hb hby at_190) (v := off) rfl (n := 192) rfl ?_
    refine o_iload X115 hx (hb hby at_192) (v := (1 : Int32)) rfl (n := 194) rfl ?_
    refine o_iload X115 hx (hb hby at_194) (v := y0) rfl (n := 196) rfl ?_
    refine o_iload X115 hx (hb hby at_196) (v := y1) rfl (n := 198) rfl ?_
    refine o_iload X115 hx (hb hby at_198) (v := f) rfl (n := 200) rfl ?_
    refine o_callS X115 hx hZ hown (hw _ (List.mem_of_getElem? (i := 6) rfl)) (hw _ (List.mem_of_getElem? (i := 7) rfl)) (hw _ (List.mem_of_getElem? (i := 8) rfl)) (hw _ (List.mem_of_getElem? (i := 9) rfl)) (by decide) e115 (argsL := [(.int (2 : Int32)), (.int off), (.int (1 : Int32)), (.int y0), (.int y1), (.int f)]) (rest := [(.int (o_ex (2 : Int32) off (1 : Int32) y0 y1 f))]) (c_expected l Z a0 hw (2 : Int32) off (1 : Int32) y0 y1 f T107.heap hf8) 1 (by decide) (by decide) (by decide) (by decide) (by rw [hml]; rfl) (lenOf o_pd1 rfl) rfl (Nat.le_of_eq rfl) (hb hby at_200) (n := 203) rfl ?_
    intro v117 T117 L117 X117 q117
    obtain ⟨rfl, e117, rfl⟩ := q117
    have N118 := Fr.app N116 (Fr.nil n0)
    show Goes p e below s _ _ _ (T117.setTop (mkF m 203 #[.val (.int p0), .val (.int p1), .val (.int p2), .val (.int p3), .val (.int p4), .val (.int (1 : Int32)), .val (.int y0), .val (.int y1), .val (.int f), .val (.ref b61), .val (.ref b70), .val (.int off), .val (.int (off + (2 : Int32)))] [(.int (o_ex (2 : Int32) off (1 : Int32) y0 y1 f)), (.int (o_ex (2 : Int32) off (1 : Int32) y0 y1 f))]))
    refine o_icmpY X117 hx (hb hby at_203) (XT.ii_eq_t rfl) (by decide) (n := 208) (by decide) ?_
    refine o_aload X117 hx (hb hby at_208) (v := (.ref b70)) rfl rfl (n := 210) rfl ?_
    refine o_iconst X117 hx (hb hby at_210) (v := (3 : Int32)) rfl (n := 211) rfl ?_
    refine o_baload X117 hx hZ e117 o107_0 (3) (by decide) (by decide) (v := (.int (o_ex (3 : Int32) off (1 : Int32) y0 y1 f))) rfl (hb hby at_211) (n := 212) rfl ?_
    refine o_iconst X117 hx (hb hby at_212) (v := (3 : Int32)) rfl (n := 213) rfl ?_
    refine o_iload X117 hx (hb hby at_213) (v := off) rfl (n := 215) rfl ?_
    refine o_iload X117 hx (hb hby at_215) (v := (1 : Int32)) rfl (n := 217) rfl ?_
    refine o_iload X117 hx (hb hby at_217) (v := y0) rfl (n := 219) rfl ?_
    refine o_iload X117 hx (hb hby at_219) (v := y1) rfl (n := 221) rfl ?_
    refine o_iload X117 hx (hb hby at_221) (v := f) rfl (n := 223) rfl ?_
    refine o_callS X117 hx hZ hown (hw _ (List.mem_of_getElem? (i := 6) rfl)) (hw _ (List.mem_of_getElem? (i := 7) rfl)) (hw _ (List.mem_of_getElem? (i := 8) rfl)) (hw _ (List.mem_of_getElem? (i := 9) rfl)) (by decide) e117 (argsL := [(.int (3 : Int32)), (.int off), (.int (1 : Int32)), (.int y0), (.int y1), (.int f)]) (rest := [(.int (o_ex (3 : Int32) off (1 : Int32) y0 y1 f))]) (c_expected l Z a0 hw (3 : Int32) off (1 : Int32) y0 y1 f T107.heap hf8) 1 (by decide) (by decide) (by decide) (by decide) (by rw [hml]; rfl) (lenOf o_pd1 rfl) rfl (Nat.le_of_eq rfl) (hb hby at_223) (n := 226) rfl ?_
    intro v119 T119 L119 X119 q119
    obtain ⟨rfl, e119, rfl⟩ := q119
    have N120 := Fr.app N118 (Fr.nil n0)
    show Goes p e below s _ _ _ (T119.setTop (mkF m 226 #[.val (.int p0), .val (.int p1), .val (.int p2), .val (.int p3), .val (.int p4), .val (.int (1 : Int32)), .val (.int y0), .val (.int y1), .val (.int f), .val (.ref b61), .val (.ref b70), .val (.int off), .val (.int (off + (2 : Int32)))] [(.int (o_ex (3 : Int32) off (1 : Int32) y0 y1 f)), (.int (o_ex (3 : Int32) off (1 : Int32) y0 y1 f))]))
    refine o_icmpY X119 hx (hb hby at_226) (XT.ii_eq_t rfl) (by decide) (n := 231) (by decide) ?_
    refine o_aload X119 hx (hb hby at_231) (v := (.ref b70)) rfl rfl (n := 233) rfl ?_
    refine o_iconst X119 hx (hb hby at_233) (v := (4 : Int32)) rfl (n := 234) rfl ?_
    refine o_baload X119 hx hZ e119 o107_0 (4) (by decide) (by decide) (v := (.int (o_ex (4 : Int32) off (1 : Int32) y0 y1 f))) rfl (hb hby at_234) (n := 235) rfl ?_
    refine o_iconst X119 hx (hb hby at_235) (v := (4 : Int32)) rfl (n := 236) rfl ?_
    refine o_iload X119 hx (hb hby at_236) (v := off) rfl (n := 238) rfl ?_
    refine o_iload X119 hx (hb hby at_238) (v := (1 : Int32)) rfl (n := 240) rfl ?_
    refine o_iload X119 hx (hb hby at_240) (v := y0) rfl (n := 242) rfl ?_
    refine o_iload X119 hx (hb hby at_242) (v := y1) rfl (n := 244) rfl ?_
    refine o_iload X119 hx (hb hby at_244) (v := f) rfl (n := 246) rfl ?_
    refine o_callS X119 hx hZ hown (hw _ (List.mem_of_getElem? (i := 6) rfl)) (hw _ (List.mem_of_getElem? (i := 7) rfl)) (hw _ (List.mem_of_getElem? (i := 8) rfl)) (hw _ (List.mem_of_getElem? (i := 9) rfl)) (by decide) e119 (argsL := [(.int (4 : Int32)), (.int off), (.int (1 : Int32)), (.int y0), (.int y1), (.int f)]) (rest := [(.int (o_ex (4 : Int32) off (1 : Int32) y0 y1 f))]) (c_expected l Z a0 hw (4 : Int32) off (1 : Int32) y0 y1 f T107.heap hf8) 1 (by decide) (by decide) (by decide) (by decide) (by rw [hml]; rfl) (lenOf o_pd1 rfl) rfl (Nat.le_of_eq rfl) (hb hby at_246) (n := 249) rfl ?_
    intro v121 T121 L121 X121 q121
    obtain ⟨rfl, e121, rfl⟩ := q121
    have N122 := Fr.app N120 (Fr.nil n0)
    show Goes p e below s _ _ _ (T121.setTop (mkF m 249 #[.val (.int p0), .val (.int p1), .val (.int p2), .val (.int p3), .val (.int p4), .val (.int (1 : Int32)), .val (.int y0), .val (.int y1), .val (.int f), .val (.ref b61), .val (.ref b70), .val (.int off), .val (.int (off + (2 : Int32)))] [(.int (o_ex (4 : Int32) off (1 : Int32) y0 y1 f)), (.int (o_ex (4 : Int32) off (1 : Int32) y0 y1 f))]))
    refine o_icmpY X121 hx (hb hby at_249) (XT.ii_eq_t rfl) (by decide) (n := 254) (by decide) ?_
    refine o_aload X121 hx (hb hby at_254) (v := (.ref b70)) rfl rfl (n := 256) rfl ?_
    refine o_iconst X121 hx (hb hby at_256) (v := (5 : Int32)) rfl (n := 257) rfl ?_
    refine o_baload X121 hx hZ e121 o107_0 (5) (by decide) (by decide) (v := (.int (o_ex (5 : Int32) off (1 : Int32) y0 y1 f))) rfl (hb hby at_257) (n := 258) rfl ?_
    refine o_iconst X121 hx (hb hby at_258) (v := (5 : Int32)) rfl (n := 259) rfl ?_
    refine o_iload X121 hx (hb hby at_259) (v := off) rfl (n := 261) rfl ?_
    refine o_iload X121 hx (hb hby at_261) (v := (1 : Int32)) rfl (n := 263) rfl ?_
    refine o_iload X121 hx (hb hby at_263) (v := y0) rfl (n := 265) rfl ?_
    refine o_iload X121 hx (hb hby at_265) (v := y1) rfl (n := 267) rfl ?_
    refine o_iload X121 hx (hb hby at_267) (v := f) rfl (n := 269) rfl ?_
    refine o_callS X121 hx hZ hown (hw _ (List.mem_of_getElem? (i := 6) rfl)) (hw _ (List.mem_of_getElem? (i := 7) rfl)) (hw _ (List.mem_of_getElem? (i := 8) rfl)) (hw _ (List.mem_of_getElem? (i := 9) rfl)) (by decide) e121 (argsL := [(.int (5 : Int32)), (.int off), (.int (1 : Int32)), (.int y0), (.int y1), (.int f)]) (rest := [(.int (o_ex (5 : Int32) off (1 : Int32) y0 y1 f))]) (c_expected l Z a0 hw (5 : Int32) off (1 : Int32) y0 y1 f T107.heap hf8) 1 (by decide) (by decide) (by decide) (by decide) (by rw [hml]; rfl) (lenOf o_pd1 rfl) rfl (Nat.le_of_eq rfl) (hb hby at_269) (n := 272) rfl ?_
    intro v123 T123 L123 X123 q123
    obtain ⟨rfl, e123, rfl⟩ := q123
    have N124 := Fr.app N122 (Fr.nil n0)
    show Goes p e below s _ _ _ (T123.setTop (mkF m 272 #[.val (.int p0), .val (.int p1), .val (.int p2), .val (.int p3), .val (.int p4), .val (.int (1 : Int32)), .val (.int y0), .val (.int y1), .val (.int f), .val (.ref b61), .val (.ref b70), .val (.int off), .val (.int (off + (2 : Int32)))] [(.int (o_ex (5 : Int32) off (1 : Int32) y0 y1 f)), (.int (o_ex (5 : Int32) off (1 : Int32) y0 y1 f))]))
    refine o_icmpY X123 hx (hb hby at_272) (XT.ii_eq_t rfl) (by decide) (n := 277) (by decide) ?_
    refine o_iload X123 hx (hb hby at_277) (v := (1 : Int32)) rfl (n := 279) rfl ?_
    refine o_iconst X123 hx (hb hby at_279) (v := (1 : Int32)) rfl (n := 280) rfl ?_
    refine o_icmpN X123 hx (hb hby at_280) (XT.ii_lt_f (by decide)) (n := 283) rfl ?_
    refine o_aload X123 hx (hb hby at_283) (v := (.ref b61)) rfl rfl (n := 285) rfl ?_
    refine o_iconst X123 hx (hb hby at_285) (v := (0 : Int32)) rfl (n := 286) rfl ?_
    refine o_baload X123 hx hZ e123 f111 (0) (by decide) (by decide) (v := (.int y0)) rfl (hb hby at_286) (n := 287) rfl ?_
    refine o_iload X123 hx (hb hby at_287) (v := y0) rfl (n := 289) rfl ?_
    refine o_icmpY X123 hx (hb hby at_289) (XT.ii_eq_t rfl) (by decide) (n := 294) (by decide) ?_
    refine o_iload X123 hx (hb hby at_294) (v := (1 : Int32)) rfl (n := 296) rfl ?_
    refine o_iconst X123 hx (hb hby at_296) (v := (2 : Int32)) rfl (n := 297) rfl ?_
    refine o_icmpY X123 hx (hb hby at_297) (XT.ii_ne_t (by decide)) (by decide) (n := 311) (by decide) ?_
    refine o_iconst X123 hx (hb hby at_311) (v := (1 : Int32)) rfl (n := 312) rfl ?_
    exact o_nreturn X123 hx hret hlk (t := .boolean) (by simp) (hb hby at_312) (by decide) (by decide) e123 ⟨rfl, N124⟩
  · refine o_iloadN X0 hx (hb hby at_0) (v := p0) rfl (n := 1) rfl ?_
    refine o_ldc X0 hx hZ (v := (2147483647 : Int32)) hown (hw _ (List.mem_of_getElem? (i := 0) rfl)) (hb hby at_1) (n := 3) rfl ?_
    refine o_iand X0 hx (hb hby at_3) (v := (p0 &&& (2147483647 : Int32))) rfl (n := 4) rfl ?_
    refine o_iconst X0 hx (hb hby at_4) (v := (3 : Int32)) rfl (n := 5) rfl ?_
    refine o_irem X0 hx (hb hby at_5) (by decide) (v := (2 : Int32)) q (n := 6) rfl ?_
    refine o_istore X0 hx (hb hby at_6) (Ls' := #[.val (.int p0), .val (.int p1), .val (.int p2), .val (.int p3), .val (.int p4), .val (.int (2 : Int32)), .unset, .unset, .unset, .unset, .unset, .unset, .unset]) rfl (n := 8) rfl ?_
    refine o_iloadN X0 hx (hb hby at_8) (v := p1) rfl (n := 9) rfl ?_
    refine o_i2b X0 hx (hb hby at_9) (v := p1.toInt8.toInt32) rfl (n := 10) rfl ?_
    refine o_istore X0 hx (hb hby at_10) (Ls' := #[.val (.int p0), .val (.int p1), .val (.int p2), .val (.int p3), .val (.int p4), .val (.int (2 : Int32)), .val (.int p1.toInt8.toInt32), .unset, .unset, .unset, .unset, .unset, .unset]) rfl (n := 12) rfl ?_
    generalize h_y0 : p1.toInt8.toInt32 = y0
    refine o_iloadN X0 hx (hb hby at_12) (v := p2) rfl (n := 13) rfl ?_
    refine o_i2b X0 hx (hb hby at_13) (v := p2.toInt8.toInt32) rfl (n := 14) rfl ?_
    refine o_istore X0 hx (hb hby at_14) (Ls' := #[.val (.int p0), .val (.int p1), .val (.int p2), .val (.int p3), .val (.int p4), .val (.int (2 : Int32)), .val (.int y0), .val (.int p2.toInt8.toInt32), .unset, .unset, .unset, .unset, .unset]) rfl (n := 16) rfl ?_
    generalize h_y1 : p2.toInt8.toInt32 = y1
    refine o_iload X0 hx (hb hby at_16) (v := p4) rfl (n := 18) rfl ?_
    refine o_i2b X0 hx (hb hby at_18) (v := p4.toInt8.toInt32) rfl (n := 19) rfl ?_
    refine o_istore X0 hx (hb hby at_19) (Ls' := #[.val (.int p0), .val (.int p1), .val (.int p2), .val (.int p3), .val (.int p4), .val (.int (2 : Int32)), .val (.int y0), .val (.int y1), .val (.int p4.toInt8.toInt32), .unset, .unset, .unset, .unset]) rfl (n := 21) rfl ?_
    generalize h_f : p4.toInt8.toInt32 = f
    have hy08 : nar .byte y0 = y0 := h_y0 ▸ o_nar8 p1
    have hy18 : nar .byte y1 = y1 := h_y1 ▸ o_nar8 p2
    have hf8 : nar .byte f = f := h_f ▸ o_nar8 p4
    refine o_iload X0 hx (hb hby at_21) (v := (2 : Int32)) rfl (n := 23) rfl ?_
    refine o_ifY X0 hx (hb hby at_23) (XT.i0_ne_t (by decide)) (by decide) (n := 32) (by decide) ?_
    refine o_iload X0 hx (hb hby at_32) (v := (2 : Int32)) rfl (n := 34) rfl ?_
    refine o_iconst X0 hx (hb hby at_34) (v := (1 : Int32)) rfl (n := 35) rfl ?_
    refine o_icmpY X0 hx (hb hby at_35) (XT.ii_ne_t (by decide)) (by decide) (n := 49) (by decide) ?_
    refine o_iconst X0 hx (hb hby at_49) (v := (2 : Int32)) rfl (n := 50) rfl ?_
    refine o_newarray X0 hx hZ (aty := .byte) (hw _ (List.mem_of_getElem? (i := 1) rfl)) e0 (hb hby at_50) (by decide) 2 (by decide) (by decide) (by decide) (by decide) (n := 52) rfl ?_
    intro T125 h125 b125 k125 X125 e125 g125 E125 V125
    have ne126 : d0 ≠ b125 := Nat.ne_of_lt (Nat.lt_of_lt_of_eq pV_d0.lt g125.symm)
    have gg125 : n0 ≤ b125 := Nat.le_trans Z0 (Nat.le_of_eq g125.symm)
    have zz125 : n0 ≤ h125.size := Nat.le_trans Z0 E125.1
    have f127 := pS_UPPER_CASE_DIGITS.ext E125
    have f128 := pV_d0.ext E125
    have f129 : Arv Z h125 b125 k125 .byte (2 : Int32) [(.int (0 : Int32)), (.int (0 : Int32))] (.int (0 : Int32)) := V125.pad (pad_rep [] (.int (0 : Int32)) 2)
    refine o_dup X125 hx (hb hby at_52) rfl (n := 53) rfl ?_
    refine o_iconst X125 hx (hb hby at_53) (v := (0 : Int32)) rfl (n := 54) rfl ?_
    refine o_iload X125 hx (hb hby at_54) (v := y0) rfl (n := 56) rfl ?_
    refine o_bastore X125 hx hZ e125 f129 (0) (by decide) (by decide) (Nat.le_of_ble_eq_true rfl) (w := (.int y0)) (congrArg Value.int hy08) (vs' := [(.int y0), (.int (0 : Int32))]) rfl (hb hby at_56) (n := 57) rfl ?_
    intro T130 h130 X130 e130 W130 V130
    have f131 := f127.wr W130
    have f132 := f128.other W130 ne126
    have zz130 : n0 ≤ h130.size := Nat.le_trans zz125 (Nat.le_of_eq W130.size.symm)
    have N133 := Fr.snoc X130 N0 gg125
    refine o_dup X130 hx (hb hby at_57) rfl (n := 58) rfl ?_
    refine o_iconst X130 hx (hb hby at_58) (v := (1 : Int32)) rfl (n := 59) rfl ?_
    refine o_iload X130 hx (hb hby at_59) (v := y1) rfl (n := 61) rfl ?_
    refine o_bastore X130 hx hZ e130 V130 (1) (by decide) (by decide) (Nat.le_of_ble_eq_true rfl) (w := (.int y1)) (congrArg Value.int hy18) (vs' := [(.int y0), (.int y1)]) rfl (hb hby at_61) (n := 62) rfl ?_
    intro T134 h134 X134 e134 W134 V134
    have f135 := f131.wr W134
    have f136 := f132.other W134 ne126
    have zz134 : n0 ≤ h134.size := Nat.le_trans zz130 (Nat.le_of_eq W134.size.symm)
    have N137 := Fr.snoc X134 N133 gg125
    refine o_astore X134 hx (hb hby at_62) rfl (Ls' := #[.val (.int p0), .val (.int p1), .val (.int p2), .val (.int p3), .val (.int p4), .val (.int (2 : Int32)), .val (.int y0), .val (.int y1), .val (.int f), .val (.ref b125), .unset, .unset, .unset]) rfl (n := 64) rfl ?_
    refine o_bipush X134 hx (hb hby at_64) (v := (6 : Int32)) rfl (n := 66) rfl ?_
    refine o_newarray X134 hx hZ (aty := .byte) (hw _ (List.mem_of_getElem? (i := 1) rfl)) e134 (hb hby at_66) (by decide) 6 (by decide) (by decide) (by decide) (by decide) (n := 68) rfl ?_
    intro T138 h138 b138 k138 X138 e138 g138 E138 V138
    have ne139 : d0 ≠ b138 := Nat.ne_of_lt (Nat.lt_of_lt_of_eq f136.lt g138.symm)
    have ne140 : b125 ≠ b138 := Nat.ne_of_lt (Nat.lt_of_lt_of_eq V134.lt g138.symm)
    have gg138 : n0 ≤ b138 := Nat.le_trans zz134 (Nat.le_of_eq g138.symm)
    have zz138 : n0 ≤ h138.size := Nat.le_trans zz134 E138.1
    have f141 := f135.ext E138
    have f142 := f136.ext E138
    have f143 := V134.ext E138
    have f144 : Arv Z h138 b138 k138 .byte (6 : Int32) [(.int (0 : Int32)), (.int (0 : Int32)), (.int (0 : Int32)), (.int (0 : Int32)), (.int (0 : Int32)), (.int (0 : Int32))] (.int (0 : Int32)) := V138.pad (pad_rep [] (.int (0 : Int32)) 6)
    refine o_dup X138 hx (hb hby at_68) rfl (n := 69) rfl ?_
    refine o_iconst X138 hx (hb hby at_69) (v := (0 : Int32)) rfl (n := 70) rfl ?_
    refine o_iload X138 hx (hb hby at_70) (v := f) rfl (n := 72) rfl ?_
    refine o_bastore X138 hx hZ e138 f144 (0) (by decide) (by decide) (Nat.le_of_ble_eq_true rfl) (w := (.int f)) (congrArg Value.int hf8) (vs' := [(.int f), (.int (0 : Int32)), (.int (0 : Int32)), (.int (0 : Int32)), (.int (0 : Int32)), (.int (0 : Int32))]) rfl (hb hby at_72) (n := 73) rfl ?_
    intro T145 h145 X145 e145 W145 V145
    have f146 := f141.wr W145
    have f147 := f142.other W145 ne139
    have f148 := f143.other W145 ne140
    have zz145 : n0 ≤ h145.size := Nat.le_trans zz138 (Nat.le_of_eq W145.size.symm)
    have N149 := Fr.snoc X145 N137 gg138
    refine o_dup X145 hx (hb hby at_73) rfl (n := 74) rfl ?_
    refine o_iconst X145 hx (hb hby at_74) (v := (1 : Int32)) rfl (n := 75) rfl ?_
    refine o_iload X145 hx (hb hby at_75) (v := f) rfl (n := 77) rfl ?_
    refine o_bastore X145 hx hZ e145 V145 (1) (by decide) (by decide) (Nat.le_of_ble_eq_true rfl) (w := (.int f)) (congrArg Value.int hf8) (vs' := [(.int f), (.int f), (.int (0 : Int32)), (.int (0 : Int32)), (.int (0 : Int32)), (.int (0 : Int32))]) rfl (hb hby at_77) (n := 78) rfl ?_
    intro T150 h150 X150 e150 W150 V150
    have f151 := f146.wr W150
    have f152 := f147.other W150 ne139
    have f153 := f148.other W150 ne140
    have zz150 : n0 ≤ h150.size := Nat.le_trans zz145 (Nat.le_of_eq W150.size.symm)
    have N154 := Fr.snoc X150 N149 gg138
    refine o_dup X150 hx (hb hby at_78) rfl (n := 79) rfl ?_
    refine o_iconst X150 hx (hb hby at_79) (v := (2 : Int32)) rfl (n := 80) rfl ?_
    refine o_iload X150 hx (hb hby at_80) (v := f) rfl (n := 82) rfl ?_
    refine o_bastore X150 hx hZ e150 V150 (2) (by decide) (by decide) (Nat.le_of_ble_eq_true rfl) (w := (.int f)) (congrArg Value.int hf8) (vs' := [(.int f), (.int f), (.int f), (.int (0 : Int32)), (.int (0 : Int32)), (.int (0 : Int32))]) rfl (hb hby at_82) (n := 83) rfl ?_
    intro T155 h155 X155 e155 W155 V155
    have f156 := f151.wr W155
    have f157 := f152.other W155 ne139
    have f158 := f153.other W155 ne140
    have zz155 : n0 ≤ h155.size := Nat.le_trans zz150 (Nat.le_of_eq W155.size.symm)
    have N159 := Fr.snoc X155 N154 gg138
    refine o_dup X155 hx (hb hby at_83) rfl (n := 84) rfl ?_
    refine o_iconst X155 hx (hb hby at_84) (v := (3 : Int32)) rfl (n := 85) rfl ?_
    refine o_iload X155 hx (hb hby at_85) (v := f) rfl (n := 87) rfl ?_
    refine o_bastore X155 hx hZ e155 V155 (3) (by decide) (by decide) (Nat.le_of_ble_eq_true rfl) (w := (.int f)) (congrArg Value.int hf8) (vs' := [(.int f), (.int f), (.int f), (.int f), (.int (0 : Int32)), (.int (0 : Int32))]) rfl (hb hby at_87) (n := 88) rfl ?_
    intro T160 h160 X160 e160 W160 V160
    have f161 := f156.wr W160
    have f162 := f157.other W160 ne139
    have f163 := f158.other W160 ne140
    have zz160 : n0 ≤ h160.size := Nat.le_trans zz155 (Nat.le_of_eq W160.size.symm)
    have N164 := Fr.snoc X160 N159 gg138
    refine o_dup X160 hx (hb hby at_88) rfl (n := 89) rfl ?_
    refine o_iconst X160 hx (hb hby at_89) (v := (4 : Int32)) rfl (n := 90) rfl ?_
    refine o_iload X160 hx (hb hby at_90) (v := f) rfl (n := 92) rfl ?_
    refine o_bastore X160 hx hZ e160 V160 (4) (by decide) (by decide) (Nat.le_of_ble_eq_true rfl) (w := (.int f)) (congrArg Value.int hf8) (vs' := [(.int f), (.int f), (.int f), (.int f), (.int f), (.int (0 : Int32))]) rfl (hb hby at_92) (n := 93) rfl ?_
    intro T165 h165 X165 e165 W165 V165
    have f166 := f161.wr W165
    have f167 := f162.other W165 ne139
    have f168 := f163.other W165 ne140
    have zz165 : n0 ≤ h165.size := Nat.le_trans zz160 (Nat.le_of_eq W165.size.symm)
    have N169 := Fr.snoc X165 N164 gg138
    refine o_dup X165 hx (hb hby at_93) rfl (n := 94) rfl ?_
    refine o_iconst X165 hx (hb hby at_94) (v := (5 : Int32)) rfl (n := 95) rfl ?_
    refine o_iload X165 hx (hb hby at_95) (v := f) rfl (n := 97) rfl ?_
    refine o_bastore X165 hx hZ e165 V165 (5) (by decide) (by decide) (Nat.le_of_ble_eq_true rfl) (w := (.int f)) (congrArg Value.int hf8) (vs' := [(.int f), (.int f), (.int f), (.int f), (.int f), (.int f)]) rfl (hb hby at_97) (n := 98) rfl ?_
    intro T170 h170 X170 e170 W170 V170
    have f171 := f166.wr W170
    have f172 := f167.other W170 ne139
    have f173 := f168.other W170 ne140
    have zz170 : n0 ≤ h170.size := Nat.le_trans zz165 (Nat.le_of_eq W170.size.symm)
    have N174 := Fr.snoc X170 N169 gg138
    refine o_astore X170 hx (hb hby at_98) rfl (Ls' := #[.val (.int p0), .val (.int p1), .val (.int p2), .val (.int p3), .val (.int p4), .val (.int (2 : Int32)), .val (.int y0), .val (.int y1), .val (.int f), .val (.ref b125), .val (.ref b138), .unset, .unset]) rfl (n := 100) rfl ?_
    refine o_iloadN X170 hx (hb hby at_100) (v := p3) rfl (n := 101) rfl ?_
    refine o_ldc X170 hx hZ (v := (2147483647 : Int32)) hown (hw _ (List.mem_of_getElem? (i := 0) rfl)) (hb hby at_101) (n := 103) rfl ?_
    refine o_iand X170 hx (hb hby at_103) (v := (p3 &&& (2147483647 : Int32))) rfl (n := 104) rfl ?_
    refine o_bipush X170 hx (hb hby at_104) (v := (7 : Int32)) rfl (n := 106) rfl ?_
    refine o_iconst X170 hx (hb hby at_106) (v := (2 : Int32)) rfl (n := 107) rfl ?_
    refine o_iload X170 hx (hb hby at_107) (v := (2 : Int32)) rfl (n := 109) rfl ?_
    refine o_imul X170 hx (hb hby at_109) (v := (4 : Int32)) (by decide) (n := 110) rfl ?_
    refine o_isub X170 hx (hb hby at_110) (v := (3 : Int32)) (by decide) (n := 111) rfl ?_
    refine o_irem X170 hx (hb hby at_111) (by decide) (v := ((p3 &&& (2147483647 : Int32)) % (3 : Int32))) rfl (n := 112) rfl ?_
    refine o_istore X170 hx (hb hby at_112) (Ls' := #[.val (.int p0), .val (.int p1), .val (.int p2), .val (.int p3), .val (.int p4), .val (.int (2 : Int32)), .val (.int y0), .val (.int y1), .val (.int f), .val (.ref b125), .val (.ref b138), .val (.int ((p3 &&& (2147483647 : Int32)) % (3 : Int32))), .unset]) rfl (n := 114) rfl ?_
    generalize h_off : ((p3 &&& (2147483647 : Int32)) % (3 : Int32)) = off
    refine o_aload X170 hx (hb hby at_114) (v := (.ref b125)) rfl rfl (n := 116) rfl ?_
    refine o_aload X170 hx (hb hby at_116) (v := (.ref b138)) rfl rfl (n := 118) rfl ?_
    refine o_iload X170 hx (hb hby at_118) (v := off) rfl (n := 120) rfl ?_
    refine o_callS X170 hx hZ hown (hw _ (List.mem_of_getElem? (i := 2) rfl)) (hw _ (List.mem_of_getElem? (i := 3) rfl)) (hw _ (List.mem_of_getElem? (i := 4) rfl)) (hw _ (List.mem_of_getElem? (i := 5) rfl)) (by decide) e170 (argsL := [(.ref b125), (.ref b138), (.int off)]) (rest := []) (c_format_2 l Z a0 hw b125 k125 b138 k138 d0 k3 y0 y1 f off h170 n0 zz170 gg138 f173 V170 f171 f172 ne140 ne139 (h_off ▸ o_mod3 p3)) 0 (by decide) (by decide) (by decide) (by decide) (by rw [hml]; rfl) (lenOf o_pd0 rfl) rfl (Nat.le_of_eq rfl) (hb hby at_120) (n := 123) rfl ?_
    intro v175 T175 L175 X175 q175
    obtain ⟨rfl, Nq175, K175, o175_0⟩ := q175
    have N176 := Fr.app N174 Nq175
    have f177 := o_sta_keep f171 K175 (allS (P := fun a => ∀ cl : Cell, h170[a]? = some cl → cl.vm.isStatics = false) (o_arv_ns V170) all0)
    have f178 := f172.keep K175 (ninS ne139 nin0)
    have f179 := f173.keep K175 (ninS ne140 nin0)
    have zz175 : n0 ≤ T175.heap.size := Nat.le_trans zz170 K175.1
    show Goes p e below s _ _ _ (T175.setTop (mkF m 123 #[.val (.int p0), .val (.int p1), .val (.int p2), .val (.int p3), .val (.int p4), .val (.int (2 : Int32)), .val (.int y0), .val (.int y1), .val (.int f), .val (.ref b125), .val (.ref b138), .val (.int off), .unset] [(.int (off + (4 : Int32)))]))
    refine o_istore X175 hx (hb hby at_123) (Ls' := #[.val (.int p0), .val (.int p1), .val (.int p2), .val (.int p3), .val (.int p4), .val (.int (2 : Int32)), .val (.int y0), .val (.int y1), .val (.int f), .val (.ref b125), .val (.ref b138), .val (.int off), .val (.int (off + (4 : Int32)))]) rfl (n := 125) rfl ?_
    refine o_iload X175 hx (hb hby at_125) (v := (off + (4 : Int32))) rfl (n := 127) rfl ?_
    refine o_iload X175 hx (hb hby at_127) (v := off) rfl (n := 129) rfl ?_
    refine o_iconst X175 hx (hb hby at_129) (v := (2 : Int32)) rfl (n := 130) rfl ?_
    refine o_iload X175 hx (hb hby at_130) (v := (2 : Int32)) rfl (n := 132) rfl ?_
    refine o_imul X175 hx (hb hby at_132) (v := (4 : Int32)) (by decide) (n := 133) rfl ?_
    refine o_iadd X175 hx (hb hby at_133) (v := (off + (4 : Int32))) rfl (n := 134) rfl ?_
    refine o_icmpY X175 hx (hb hby at_134) (XT.ii_eq_t rfl) (by decide) (n := 139) (by decide) ?_
    refine o_aload X175 hx (hb hby at_139) (v := (.ref b138)) rfl rfl (n := 141) rfl ?_
    refine o_iconst X175 hx (hb hby at_141) (v := (0 : Int32)) rfl (n := 142) rfl ?_
    refine o_baload X175 hx hZ (rfl : T175.heap = T175.heap) o175_0 (0) (by decide) (by decide) (v := (.int (o_ex (0 : Int32) off (2 : Int32) y0 y1 f))) rfl (hb hby at_142) (n := 143) rfl ?_
    refine o_iconst X175 hx (hb hby at_143) (v := (0 : Int32)) rfl (n := 144) rfl ?_
    refine o_iload X175 hx (hb hby at_144) (v := off) rfl (n := 146) rfl ?_
    refine o_iload X175 hx (hb hby at_146) (v := (2 : Int32)) rfl (n := 148) rfl ?_
    refine o_iload X175 hx (hb hby at_148) (v := y0) rfl (n := 150) rfl ?_
    refine o_iload X175 hx (hb hby at_150) (v := y1) rfl (n := 152) rfl ?_
    refine o_iload X175 hx (hb hby at_152) (v := f) rfl (n := 154) rfl ?_
    refine o_callS X175 hx hZ hown (hw _ (List.mem_of_getElem? (i := 6) rfl)) (hw _ (List.mem_of_getElem? (i := 7) rfl)) (hw _ (List.mem_of_getElem? (i := 8) rfl)) (hw _ (List.mem_of_getElem? (i := 9) rfl)) (by decide) (rfl : T175.heap = T175.heap) (argsL := [(.int (0 : Int32)), (.int off), (.int (2 : Int32)), (.int y0), (.int y1), (.int f)]) (rest := [(.int (o_ex (0 : Int32) off (2 : Int32) y0 y1 f))]) (c_expected l Z a0 hw (0 : Int32) off (2 : Int32) y0 y1 f T175.heap hf8) 1 (by decide) (by decide) (by decide) (by decide) (by rw [hml]; rfl) (lenOf o_pd1 rfl) rfl (Nat.le_of_eq rfl) (hb hby at_154) (n := 157) rfl ?_
    intro v181 T181 L181 X181 q181
    obtain ⟨rfl, e181, rfl⟩ := q181
    have N182 := Fr.app N176 (Fr.nil n0)
    show Goes p e below s _ _ _ (T181.setTop (mkF m 157 #[.val (.int p0), .val (.int p1), .val (.int p2), .val (.int p3), .val (.int p4), .val (.int (2 : Int32)), .val (.int y0), .val (.int y1), .val (.int f), .val (.ref b125), .val (.ref b138), .val (.int off), .val (.int (off + (4 : Int32)))] [(.int (o_ex (0 : Int32) off (2 : Int32) y0 y1 f)), (.int (o_ex (0 : Int32) off (2 : Int32) y0 y1 f))]))
    refine o_icmpY X181 hx (hb hby at_157) (XT.ii_eq_t rfl) (by decide) (n := 162) (by decide) ?_
    refine o_aload X181 hx (hb hby at_162) (v := (.ref b138)) rfl rfl (n := 164) rfl ?_
    refine o_iconst X181 hx (hb hby at_164) (v := (1 : Int32)) rfl (n := 165) rfl ?_
    refine o_baload X181 hx hZ e181 o175_0 (1) (by decide) (by decide) (v := (.int (o_ex (1 : Int32) off (2 : Int32) y0 y1 f))) rfl (hb hby at_165) (n := 166) rfl ?_
    refine o_iconst X181 hx (hb hby at_166) (v := (1 : Int32)) rfl (n := 167) rfl ?_
    refine o_iload X181 hx (hb hby at_167) (v := off) rfl (n := 169) rfl ?_
    refine o_iload X181 hx (hb hby at_169) (v := (2 : Int32)) rfl (n := 171) rfl ?_
    refine o_iload X181 hx (hb hby at_171) (v := y0) rfl (n := 173) rfl ?_
    refine o_iload X181 hx (hb hby at_173) (v := y1) rfl (n := 175) rfl ?_
    refine o_iload X181 hx (hb hby at_175) (v := f) rfl (n := 177) rfl ?_
    refine o_callS X181 hx hZ hown (hw _ (List.mem_of_getElem? (i := 6) rfl)) (hw _ (List.mem_of_getElem? (i := 7) rfl)) (hw _ (List.mem_of_getElem? (i := 8) rfl)) (hw _ (List.mem_of_getElem? (i := 9) rfl)) (by decide) e181 (argsL := [(.int (1 : Int32)), (.int off), (.int (2 : Int32)), (.int y0), (.int y1), (.int f)]) (rest := [(.int (o_ex (1 : Int32) off (2 : Int32) y0 y1 f))]) (c_expected l Z a0 hw (1 : Int32) off (2 : Int32) y0 y1 f T175.heap hf8) 1 (by decide) (by decide) (by decide) (by decide) (by rw [hml]; rfl) (lenOf o_pd1 rfl) rfl (Nat.le_of_eq rfl) (hb hby at_177) (n := 180) rfl ?_
    intro v183 T183 L183 X183 q183
    obtain ⟨rfl, e183, rfl⟩ := q183
    have N184 := Fr.app N182 (Fr.nil n0)
    show Goes p e below s _ _ _ (T183.setTop (mkF m 180 #[.val (.int p0), .val (.int p1), .val (.int p2), .val (.int p3), .val (.int p4), .val (.int (2 : Int32)), .val (.int y0), .val (.int y1), .val (.int f), .val (.ref b125), .val (.ref b138), .val (.int off), .val (.int (off + (4 : Int32)))] [(.int (o_ex (1 : Int32) off (2 : Int32) y0 y1 f)), (.int (o_ex (1 : Int32) off (2 : Int32) y0 y1 f))]))
    refine o_icmpY X183 hx (hb hby at_180) (XT.ii_eq_t rfl) (by decide) (n := 185) (by decide) ?_
    refine o_aload X183 hx (hb hby at_185) (v := (.ref b138)) rfl rfl (n := 187) rfl ?_
    refine o_iconst X183 hx (hb hby at_187) (v := (2 : Int32)) rfl (n := 188) rfl ?_
    refine o_baload X183 hx hZ e183 o175_0 (2) (by decide) (by decide) (v := (.int (o_ex (2 : Int32) off (2 : Int32) y0 y1 f))) rfl (hb hby at_188) (n := 189) rfl ?_
    refine o_iconst X183 hx (hb hby at_189) (v := (2 : Int32)) rfl (n := 190) rfl ?_
    refine o_iload X183 hx (hb hby at_190) (v := off) rfl (n := 192) rfl ?_
    refine o_iload X183 hx (hb hby at_192) (v := (2 : Int32)) rfl (n := 194) rfl ?_
    refine o_iload X183 hx (hb hby at_194) (v := y0) rfl (n := 196) rfl ?_
    refine o_iload X183 hx (hb hby at_196) (v := y1) rfl (n := 198) rfl ?_
    refine o_iload X183 hx (hb hby at_198) (v := f) rfl (n := 200) rfl ?_
    refine o_callS X183 hx hZ hown (hw _ (List.mem_of_getElem? (i := 6) rfl)) (hw _ (List.mem_of_getElem? (i := 7) rfl)) (hw _ (List.mem_of_getElem? (i := 8) rfl)) (hw _ (List.mem_of_getElem? (i := 9) rfl)) (by decide) e183 (argsL := [(.int (2 : Int32)), (.int off), (.int (2 : Int32)), (.int y0), (.int y1), (.int f)]) (rest := [(.int (o_ex (2 : Int32) off (2 : Int32) y0 y1 f))]) (c_expected l Z a0 hw (2 : Int32) off (2 : Int32) y0 y1 f T175.heap hf8) 1 (by decide) (by decide) (by decide) (by decide) (by rw [hml]; rfl) (lenOf o_pd1 rfl) rfl (Nat.le_of_eq rfl) (hb hby at_200) (n := 203) rfl ?_
    intro v185 T185 L185 X185 q185
    obtain ⟨rfl, e185, rfl⟩ := q185
    have N186 := Fr.app N184 (Fr.nil n0)
    show Goes p e below s _ _ _ (T185.setTop (mkF m 203 #[.val (.int p0), .val (.int p1), .val (.int p2), .val (.int p3), .val (.int p4), .val (.int (2 : Int32)), .val (.int y0), .val (.int y1), .val (.int f), .val (.ref b125), .val (.ref b138), .val (.int off), .val (.int (off + (4 : Int32)))] [(.int (o_ex (2 : Int32) off (2 : Int32) y0 y1 f)), (.int (o_ex (2 : Int32) off (2 : Int32) y0 y1 f))]))
    refine o_icmpY X185 hx (hb hby at_203) (XT.ii_eq_t rfl) (by decide) (n := 208) (by decide) ?_
    refine o_aload X185 hx (hb hby at_208) (v := (.ref b138)) rfl rfl (n := 210) rfl ?_
    refine o_iconst X185 hx (hb hby at_210) (v := (3 : Int32)) rfl (n := 211) rfl ?_
    refine o_baload X185 hx hZ e185 o175_0 (3) (by decide) (by decide) (v := (.int (o_ex (3 : Int32) off (2 : Int32) y0 y1 f))) rfl (hb hby at_211) (n := 212) rfl ?_
    refine o_iconst X185 hx (hb hby at_212) (v := (3 : Int32)) rfl (n := 213) rfl ?_
    refine o_iload X185 hx (hb hby at_213) (v := off) rfl (n := 215) rfl ?_
    refine o_iload X185 hx (hb hby at_215) (v := (2 : Int32)) rfl (n := 217) rfl ?_
    refine o_iload X185 hx (hb hby at_217) (v := y0) rfl (n := 219) rfl ?_
    refine o_iload X185 hx (hb hby at_219) (v := y1) rfl (n := 221) rfl ?_
    refine o_iload X185 hx (hb hby at_221) (v := f) rfl (n := 223) rfl ?_
    refine o_callS X185 hx hZ hown (hw _ (List.mem_of_getElem? (i := 6) rfl)) (hw _ (List.mem_of_getElem? (i := 7) rfl)) (hw _ (List.mem_of_getElem? (i := 8) rfl)) (hw _ (List.mem_of_getElem? (i := 9) rfl)) (by decide) e185 (argsL := [(.int (3 : Int32)), (.int off), (.int (2 : Int32)), (.int y0), (.int y1), (.int f)]) (rest := [(.int (o_ex (3 : Int32) off (2 : Int32) y0 y1 f))]) (c_expected l Z a0 hw (3 : Int32) off (2 : Int32) y0 y1 f T175.heap hf8) 1 (by decide) (by decide) (by decide) (by decide) (by rw [hml]; rfl) (lenOf o_pd1 rfl) rfl (Nat.le_of_eq rfl) (hb hby at_223) (n := 226) rfl ?_
    intro v187 T187 L187 X187 q187
    obtain ⟨rfl, e187, rfl⟩ := q187
    have N188 := Fr.app N186 (Fr.nil n0)
    show Goes p e below s _ _ _ (T187.setTop (mkF m 226 #[.val (.int p0), .val (.int p1), .val (.int p2), .val (.int p3), .val (.int p4), .val (.int (2 : Int32)), .val (.int y0), .val (.int y1), .val (.int f), .val (.ref b125), .val (.ref b138), .val (.int off), .val (.int (off + (4 : Int32)))] [(.int (o_ex (3 : Int32) off (2 : Int32) y0 y1 f)), (.int (o_ex (3 : Int32) off (2 : Int32) y0 y1 f))]))
    refine o_icmpY X187 hx (hb hby at_226) (XT.ii_eq_t rfl) (by decide) (n := 231) (by decide) ?_
    refine o_aload X187 hx (hb hby at_231) (v := (.ref b138)) rfl rfl (n := 233) rfl ?_
    refine o_iconst X187 hx (hb hby at_233) (v := (4 : Int32)) rfl (n := 234) rfl ?_
    refine o_baload X187 hx hZ e187 o175_0 (4) (by decide) (by decide) (v := (.int (o_ex (4 : Int32) off (2 : Int32) y0 y1 f))) rfl (hb hby at_234) (n := 235) rfl ?_
    refine o_iconst X187 hx (hb hby at_235) (v := (4 : Int32)) rfl (n := 236) rfl ?_
    refine o_iload X187 hx (hb hby at_236) (v := off) rfl (n := 238) rfl ?_
    refine o_iload X187 hx (hb hby at_238) (v := (2 : Int32)) rfl (n := 240) rfl ?_
    refine o_iload X187 hx (hb hby at_240) (v := y0) rfl (n := 242) rfl ?_
    refine o_iload X187 hx (hb hby at_242) (v := y1) rfl (n := 244) rfl ?_
    refine o_iload X187 hx (hb hby at_244) (v := f) rfl (n := 246) rfl ?_
    refine o_callS X187 hx hZ hown (hw _ (List.mem_of_getElem? (i := 6) rfl)) (hw _ (List.mem_of_getElem? (i := 7) rfl)) (hw _ (List.mem_of_getElem? (i := 8) rfl)) (hw _ (List.mem_of_getElem? (i := 9) rfl)) (by decide) e187 (argsL := [(.int (4 : Int32)), (.int off), (.int (2 : Int32)), (.int y0), (.int y1), (.int f)]) (rest := [(.int (o_ex (4 : Int32) off (2 : Int32) y0 y1 f))]) (c_expected l Z a0 hw (4 : Int32) off (2 : Int32) y0 y1 f T175.heap hf8) 1 (by decide) (by decide) (by decide) (by decide) (by rw [hml]; rfl) (lenOf o_pd1 rfl) rfl (Nat.le_of_eq rfl) (hb hby at_246) (n := 249) rfl ?_
    intro v189 T189 L189 X189 q189
    obtain ⟨rfl, e189, rfl⟩ := q189
    have N190 := Fr.app N188 (Fr.nil n0)
    show Goes p e below s _ _ _ (T189.setTop (mkF m 249 #[.val (.int p0), .val (.int p1), .val (.int p2), .val (.int p3), .val (.int p4), .val (.int (2 : Int32)), .val (.int y0), .val (.int y1), .val (.int f), .val (.ref b125), .val (.ref b138), .val (.int off), .val (.int (off + (4 : Int32)))] [(.int (o_ex (4 : Int32) off (2 : Int32) y0 y1 f)), (.int (o_ex (4 : Int32) off (2 : Int32) y0 y1 f))]))
    refine o_icmpY X189 hx (hb hby at_249) (XT.ii_eq_t rfl) (by decide) (n := 254) (by decide) ?_
    refine o_aload X189 hx (hb hby at_254) (v := (.ref b138)) rfl rfl (n := 256) rfl ?_
    refine o_iconst X189 hx (hb hby at_256) (v := (5 : Int32)) rfl (n := 257) rfl ?_
    refine o_baload X189 hx hZ e189 o175_0 (5) (by decide) (by decide) (v := (.int (o_ex (5 : Int32) off (2 : Int32) y0 y1 f))) rfl (hb hby at_257) (n := 258) rfl ?_
    refine o_iconst X189 hx (hb hby at_258) (v := (5 : Int32)) rfl (n := 259) rfl ?_
    refine o_iload X189 hx (hb hby at_259) (v := off) rfl (n := 261) rfl ?_
    refine o_iload X189 hx (hb hby at_261) (v := (2 : Int32)) rfl (n := 263) rfl ?_
    refine o_iload X189 hx (hb hby at_263) (v := y0) rfl (n := 265) rfl ?_
    refine o_iload X189 hx (hb hby at_265) (v := y1) rfl (n := 267) rfl ?_
    refine o_iload X189 hx (hb hby at_267) (v := f) rfl (n := 269) rfl ?_
    refine o_callS X189 hx hZ hown (hw _ (List.mem_of_getElem? (i := 6) rfl)) (hw _ (List.mem_of_getElem? (i := 7) rfl)) (hw _ (List.mem_of_getElem? (i := 8) rfl)) (hw _ (List.mem_of_getElem? (i := 9) rfl)) (by decide) e189 (argsL := [(.int (5 : Int32)), (.int off), (.int (2 : Int32)), (.int y0), (.int y1), (.int f)]) (rest := [(.int (o_ex (5 : Int32) off (2 : Int32) y0 y1 f))]) (c_expected l Z a0 hw (5 : Int32) off (2 : Int32) y0 y1 f T175.heap hf8) 1 (by decide) (by decide) (by decide) (by decide) (by rw [hml]; rfl) (lenOf o_pd1 rfl) rfl (Nat.le_of_eq rfl) (hb hby at_269) (n := 272) rfl ?_
    intro v191 T191 L191 X191 q191
    obtain ⟨rfl, e191, rfl⟩ := q191
    have N192 := Fr.app N190 (Fr.nil n0)
    show Goes p e below s _ _ _ (T191.setTop (mkF m 272 #[.val (.int p0), .val (.int p1), .val (.int p2), .val (.int p3), .val (.int p4), .val (.int (2 : Int32)), .val (.int y0), .val (.int y1), .val (.int f), .val (.ref b125), .val (.ref b138), .val (.int off), .val (.int (off + (4 : Int32)))] [(.int (o_ex (5 : Int32) off (2 : Int32) y0 y1 f)), (.int (o_ex (5 : Int32) off (2 : Int32) y0 y1 f))]))
    refine o_icmpY X191 hx (hb hby at_272) (XT.ii_eq_t rfl) (by decide) (n := 277) (by decide) ?_
    refine o_iload X191 hx (hb hby at_277) (v := (2 : Int32)) rfl (n := 279) rfl ?_
    refine o_iconst X191 hx (hb hby at_279) (v := (1 : Int32)) rfl (n := 280) rfl ?_
    refine o_icmpN X191 hx (hb hby at_280) (XT.ii_lt_f (by decide)) (n := 283) rfl ?_
    refine o_aload X191 hx (hb hby at_283) (v := (.ref b125)) rfl rfl (n := 285) rfl ?_
    refine o_iconst X191 hx (hb hby at_285) (v := (0 : Int32)) rfl (n := 286) rfl ?_
    refine o_baload X191 hx hZ e191 f179 (0) (by decide) (by decide) (v := (.int y0)) rfl (hb hby at_286) (n := 287) rfl ?_
    refine o_iload X191 hx (hb hby at_287) (v := y0) rfl (n := 289) rfl ?_
    refine o_icmpY X191 hx (hb hby at_289) (XT.ii_eq_t rfl) (by decide) (n := 294) (by decide) ?_
    refine o_iload X191 hx (hb hby at_294) (v := (2 : Int32)) rfl (n := 296) rfl ?_
    refine o_iconst X191 hx (hb hby at_296) (v := (2 : Int32)) rfl (n := 297) rfl ?_
    refine o_icmpN X191 hx (hb hby at_297) (XT.ii_ne_f (by decide)) (n := 300) rfl ?_
    refine o_aload X191 hx (hb hby at_300) (v := (.ref b125)) rfl rfl (n := 302) rfl ?_
    refine o_iconst X191 hx (hb hby at_302) (v := (1 : Int32)) rfl (n := 303) rfl ?_
    refine o_baload X191 hx hZ e191 f179 (1) (by decide) (by decide) (v := (.int y1)) rfl (hb hby at_303) (n := 304) rfl ?_
    refine o_iload X191 hx (hb hby at_304) (v := y1) rfl (n := 306) rfl ?_
    refine o_icmpY X191 hx (hb hby at_306) (XT.ii_eq_t rfl) (by decide) (n := 311) (by decide) ?_
    refine o_iconst X191 hx (hb hby at_311) (v := (1 : Int32)) rfl (n := 312) rfl ?_
    exact o_nreturn X191 hx hret hlk (t := .boolean) (by simp) (hb hby at_312) (by decide) (by decide) e191 ⟨rfl, N192⟩
set_option maxRecDepth 65536 in
set_option maxHeartbeats 40000000 in
theorem comes_1 {Post : Tables → Env → Array Value → State → Outcome → State → Prop} (hpost : ∀ tb e args s v u, (limb_1_1.after args s (.returned v) u = true ∧ limb_1_2.after args s (.returned v) u = true ∧ True) → FrameEnd s (.returned v) u (Jvm.fieldLocs frame_1_writes args s ++ Jvm.arrayLocs frame_1_arrays args s ++ Jvm.staticLocs frame_1_statics s) 16 128 → Post tb e args s (.returned v) u) :
    ArmFor flags0 classFile x code maxLocals ret World_1 tables_1 room_1 Calls_1 rest_1 Pre_1 Post := by
  intro l hfl _ _ p e ha hc hk s m args below hf hA hF happ hP
  obtain ⟨hcalls, hrest, hpre⟩ := hP
  obtain ⟨-, -, -, hnamed, -, -, -, hat⟩ := (Spec.applies_iff hf).mp happ
  obtain ⟨hg, hn⟩ := and_e (Cond.before_iff.mp (show (Jvm.Cond.and given_1 narrow_1).before args s = true from hpre))
  obtain ⟨gv1, gv2⟩ := and_e hg
  obtain ⟨gv3, gv4⟩ := and_e gv2
  obtain ⟨gv5, gv6⟩ := and_e gv4
  obtain ⟨gv7, gv8⟩ := and_e gv6
  obtain ⟨gv9, gv10⟩ := and_e gv8
  obtain ⟨w0, w1, w2, w3, w4, rfl⟩ : ∃ w0 w1 w2 w3 w4 : Value, args = #[w0, w1, w2, w3, w4] := by
    have hs : args.size = 5 := by simpa [Cond.value, given_1] using gv1
    obtain ⟨L⟩ := args
    match L, hs with
    | [w0, w1, w2, w3, w4], _ => exact ⟨w0, w1, w2, w3, w4, rfl⟩
  have hw := fun d (hd : d ∈ tables_1) => atoms_spec (ws := Jvm.Cond.code x code maxLocals ret :: tables_1) hat d (List.mem_cons_of_mem _ hd)
  have hfit : Fit s := fun {y c} hc i hi => by
    obtain ⟨ha, rfl⟩ := Array.getElem?_eq_some_iff.mp hc
    have q := List.all_eq_true.mp ((Array.all_eq_true_iff_forall_mem.mp hF) _ (Array.getElem_mem ha)) i (List.mem_range.mpr hi)
    simpa [Array.getElem?_eq_getElem hi] using q
  obtain ⟨i0, ei0⟩ := is_v gv3
  obtain rfl : w0 = (.int i0) := Option.some.inj ei0
  obtain ⟨i1, ei1⟩ := is_v gv5
  obtain rfl : w1 = (.int i1) := Option.some.inj ei1
  obtain ⟨i2, ei2⟩ := is_v gv7
  obtain rfl : w2 = (.int i2) := Option.some.inj ei2
  obtain ⟨i3, ei3⟩ := is_v gv9
  obtain rfl : w3 = (.int i3) := Option.some.inj ei3
  obtain ⟨i4, ei4⟩ := is_v gv10
  obtain rfl : w4 = (.int i4) := Option.some.inj ei4
  obtain ⟨nA, nB⟩ := and_e hn
  obtain ⟨nB, nC⟩ := and_e nB
  obtain ⟨nC, nD⟩ := and_e nC
  obtain ⟨d0, hd0⟩ := arr_v nA
  obtain ⟨cl, hA⟩ := Arr.start hd0 nA
  have hS := Sta.start hd0 (Or.inr ⟨(hw _ (List.mem_of_getElem? (i := 4) rfl)), (hw _ (List.mem_of_getElem? (i := 11) rfl))⟩)
  obtain ⟨hlt, hsz⟩ := o_len hd0 hA nB
  have hsz' : cl.slots.size = 16 := by have := len_toInt hlt; rw [hsz] at this; exact Int.ofNat.inj this.symm
  have hdg := o_digit hfit (fun idx => hd0) hA hsz' nC nD
  have hV : Arv s s.heap d0 cl.cls .byte 16 [(.int (48 : Int32)), (.int (49 : Int32)), (.int (50 : Int32)), (.int (51 : Int32)), (.int (52 : Int32)), (.int (53 : Int32)), (.int (54 : Int32)), (.int (55 : Int32)), (.int (56 : Int32)), (.int (57 : Int32)), (.int (65 : Int32)), (.int (66 : Int32)), (.int (67 : Int32)), (.int (68 : Int32)), (.int (69 : Int32)), (.int (70 : Int32))] (.int 0) := Arv.start hfit hA hlt hsz (by decide) rfl ⟨hdg 0 (by decide) (by decide), hdg 1 (by decide) (by decide), hdg 2 (by decide) (by decide), hdg 3 (by decide) (by decide), hdg 4 (by decide) (by decide), hdg 5 (by decide) (by decide), hdg 6 (by decide) (by decide), hdg 7 (by decide) (by decide), hdg 8 (by decide) (by decide), hdg 9 (by decide) (by decide), hdg 10 (by decide) (by decide), hdg 11 (by decide) (by decide), hdg 12 (by decide) (by decide), hdg 13 (by decide) (by decide), hdg 14 (by decide) (by decide), hdg 15 (by decide) (by decide), trivial⟩
  obtain ⟨n, o, h1, h2, h3, _, L, rfl, ⟨rfl, N⟩, hq⟩ := o_law l s _ hw i0 i1 i2 i3 i4 s.heap s.heap.size (Nat.le_refl _) d0 cl.cls hS hV p e ha hc hk s m _ below hf ((Spec.applies_iff_loose hf).mp happ).1 ⟨rfl, State.Warmed39.refl s, rfl⟩ trivial
  refine ⟨n, _, h1, h2, h3, hpost _ _ _ _ _ _ ⟨Cond.after_iff.mpr rfl, Cond.after_iff.mpr (eq_i res_at (Term.int_eval (1)) rfl), trivial⟩ ⟨hq.1, hq.2.1, (hq.2.2.sift fun y hy => Or.inr (N y hy)).mono (by decide) (by decide)⟩⟩
theorem main_1_1 : Claimed_1_1 := comes_1 fun _ _ _ _ _ _ h hF => ⟨h.1, hF⟩
theorem main_1_2 : Claimed_1_2 := comes_1 fun _ _ _ _ _ _ h hF => ⟨h.2.1, hF⟩
end Jvm.Pilot.@@N@@
namespace Jvm.Pilot.@@N@@
open Jvm Jvm.ClassFile Sem Op Lib Jvm.Free Jvm.Stand Jvm.Pilot.@@N@@.Jvm.D
/-! MADE BY PROGRAM (witnessworld.py) out of the Statement's table words and the real class files: 9 classes; the members and pool entries that the words name. The judged class is class 1, her method 1. -/
namespace start1
open Jvm.ClassFile
def u (s : String) : CpInfo := .utf8 (stringToUtf16 s)
/-- a pool by its gaps: so many unusable entries, then the entry; so many at the end -/
def gap : Nat → List CpInfo → List CpInfo
  | 0, r => r
  | n + 1, r => .unusable :: gap n r
def poolList (es : List (Nat × CpInfo)) (last : Nat) : List CpInfo := es.foldr (fun e r => gap e.1 (e.2 :: r)) (gap last [])
def pool (es : List (Nat × CpInfo)) (last : Nat) : Array CpInfo := ⟨poolList es last⟩
def fileOf (pool : Array CpInfo) (this : Nat) (attrs : Array Attribute := #[]) (ms : Array MethodInfo := #[]) (fl : Nat := 33) (sup : Nat := 0) (ifs : Array Nat := #[]) (fds : Array FieldInfo := #[]) : ClassFile where
  minorVersion := 0
  majorVersion := 65
  constantPool := pool
  accessFlags := fl
  thisClass := this
  superClass := sup
  interfaces := ifs
  fields := fds
  methods := ms
  attributes := attrs
def plain (name : String) (sup : Option ClassId) : Class where
  name := name
  kind := .ordinary
  loader := none
  accessFlags := 33
  super := sup
  interfaces := #[]
  cf := none
  fields := #[]
  methods := #[]
  instanceTypes := #[]
  staticTypes := #[]
  resolved := #[]
  callSites := []
  init := .initialized
  statics := none
  mirror := none

def pool0 : Array CpInfo := pool [(5, u "<init>"), (0, u "()V"), (1, .class_ 10), (1, u "java/lang/Object")] 113

def k0m0 : Method := { name := "<init>", desc := "()V", sig := { parameters := [], returnType := none }, accessFlags := 1, code := none }
/-- java/lang/Object -/
def k0 : Class := { plain "java/lang/Object" none with
  accessFlags := 33
  interfaces := #[]
  cf := some (fileOf pool0 8 #[] #[{ accessFlags := 1, nameIndex := 5, descriptorIndex := 6, attributes := #[] }] 33 0 #[] #[])
  fields := #[]
  methods := #[k0m0]
  instanceTypes := #[]
  staticTypes := #[]
  resolved := Array.replicate 124 none
  statics := none }

def pool1 : Array CpInfo := pool [(2, .class_ 4), (1, u "java/lang/Object"), (0, u "<init>"), (0, u "()V"), (0, .integer 2147483647), (0, .methodref 9 10), (0, .class_ 11), (0, .nameAndType 12 13), (0, u "com/example/vigilant_card/vigilantcard/Hex"), (0, u "format"), (0, u "([B[BI)I"), (0, .methodref 15 16), (0, .class_ 17), (0, .nameAndType 18 19), (0, u "com/example/vigilant_card/vigilantcard/HexFormatPinLaw"), (0, u "expected"), (0, u "(IIIBBB)B"), (2, u "law"), (0, u "(IIIII)Z")] 5

def k1m0 : Method := { name := "<init>", desc := "()V", sig := { parameters := [], returnType := none }, accessFlags := 1, code := none }
def k1c1 : Code := { maxStack := 7, maxLocals := 13, code := code, exceptionTable := #[], attributes := #[] }
def k1m1 : Method := { name := "law", desc := "(IIIII)Z", sig := { parameters := [.int, .int, .int, .int, .int], returnType := some .boolean }, accessFlags := 9, code := some k1c1 }
def k1c2 : Code := { maxStack := 3, maxLocals := 9, code := method_3_code, exceptionTable := #[], attributes := #[] }
def k1m2 : Method := { name := "expected", desc := "(IIIBBB)B", sig := { parameters := [.int, .int, .int, .byte, .byte, .byte], returnType := some .byte }, accessFlags := 10, code := some k1c2 }
/-- com/example/vigilant_card/vigilantcard/HexFormatPinLaw -/
def k1 : Class := { plain "com/example/vigilant_card/vigilantcard/HexFormatPinLaw" (some 0) with
  accessFlags := 49
  interfaces := #[]
  cf := some (fileOf pool1 15 #[] #[{ accessFlags := 1, nameIndex := 5, descriptorIndex := 6, attributes := #[] }, { accessFlags := 9, nameIndex := 22, descriptorIndex := 23, attributes := #[] }, { accessFlags := 10, nameIndex := 18, descriptorIndex := 19, attributes := #[] }] 49 2 #[] #[])
  fields := #[]
  methods := #[k1m0, k1m1, k1m2]
  instanceTypes := #[]
  staticTypes := #[]
  resolved := Array.replicate 29 none
  statics := none }

def pool2 : Array CpInfo := pool [(2, .class_ 4), (1, u "java/lang/Object"), (0, u "<init>"), (0, u "()V"), (1, .class_ 10), (1, u "com/example/vigilant_card/vigilantcard/Hex"), (0, u "format"), (0, u "([B[BI)I"), (11, .fieldref 8 25), (0, .nameAndType 26 27), (0, u "UPPER_CASE_DIGITS"), (0, u "[B"), (77, u "SEPARATORS"), (0, u "Ljava/lang/String;")] 30

def k2m0 : Method := { name := "<init>", desc := "()V", sig := { parameters := [], returnType := none }, accessFlags := 2, code := none }
def k2c1 : Code := { maxStack := 5, maxLocals := 8, code := prog_43_method_3_code, exceptionTable := #[], attributes := #[] }
def k2m1 : Method := { name := "format", desc := "([B[BI)I", sig := { parameters := [(.array .byte), (.array .byte), .int], returnType := some .int }, accessFlags := 9, code := some k2c1 }
/-- com/example/vigilant_card/vigilantcard/Hex -/
def k2 : Class := { plain "com/example/vigilant_card/vigilantcard/Hex" (some 0) with
  accessFlags := 49
  interfaces := #[]
  cf := some (fileOf pool2 8 #[] #[{ accessFlags := 2, nameIndex := 5, descriptorIndex := 6, attributes := #[] }, { accessFlags := 9, nameIndex := 11, descriptorIndex := 12, attributes := #[] }] 49 2 #[] #[{ accessFlags := 26, nameIndex := 26, descriptorIndex := 27, attributes := #[] }, { accessFlags := 26, nameIndex := 105, descriptorIndex := 106, attributes := #[] }])
  fields := #[{ name := "UPPER_CASE_DIGITS", type := (.array .byte), accessFlags := 26, slot := 0, constantValue := 0 }, { name := "SEPARATORS", type := (.object "java/lang/String"), accessFlags := 26, slot := 1, constantValue := 0 }]
  methods := #[k2m0, k2m1]
  instanceTypes := #[]
  staticTypes := #[(.array .byte), (.object "java/lang/String")]
  resolved := Array.replicate 137 none
  statics := some 0 }

def pool3 : Array CpInfo := pool [(1, u "java/lang/Cloneable"), (0, .class_ 1), (0, u "java/lang/Object"), (0, .class_ 3)] 3

/-- java/lang/Cloneable -/
def k3 : Class := { plain "java/lang/Cloneable" (some 0) with
  accessFlags := 1537
  interfaces := #[]
  cf := some (fileOf pool3 2 #[] #[] 1537 4 #[] #[])
  fields := #[]
  methods := #[]
  instanceTypes := #[]
  staticTypes := #[]
  resolved := Array.replicate 8 none
  statics := none }

def pool4 : Array CpInfo := pool [(1, u "java/io/Serializable"), (0, .class_ 1), (0, u "java/lang/Object"), (0, .class_ 3)] 3

/-- java/io/Serializable -/
def k4 : Class := { plain "java/io/Serializable" (some 0) with
  accessFlags := 1537
  interfaces := #[]
  cf := some (fileOf pool4 2 #[] #[] 1537 4 #[] #[])
  fields := #[]
  methods := #[]
  instanceTypes := #[]
  staticTypes := #[]
  resolved := Array.replicate 8 none
  statics := none }

/-- the primitive byte -/
def k5 : Class := { plain "byte" none with kind := .primitive 'B', accessFlags := 0x411 }
/-- [B -/
def k6 : Class := { plain "[B" (some 0) with kind := .array 5 .byte, interfaces := #[3, 4], accessFlags := 1041 }

/-- the primitive int -/
def k7 : Class := { plain "int" none with kind := .primitive 'I', accessFlags := 0x411 }
/-- [I -/
def k8 : Class := { plain "[I" (some 0) with kind := .array 7 .int, interfaces := #[3, 4], accessFlags := 1041 }

def heap : Heap := #[{ cls := 2, slots := #[.ref 1, .null], vm := .statics 2 },
  { cls := 6, slots := #[.int 48, .int 49, .int 50, .int 51, .int 52, .int 53, .int 54, .int 55, .int 56, .int 57, .int 65, .int 66, .int 67, .int 68, .int 69, .int 70], vm := .none }]
def classes : Array Class := #[k0, k1, k2, k3, k4, k5, k6, k7, k8]
def interned : List (Array UInt16 × Addr) := []
def slotsUsed : Nat := 18
def theMethod : MethodId := ⟨1, 1⟩
def args0 : Array Value := #[.int 5, .int 5, .int 5, .int 5, .int 5]
def aboutOver (below : List Frame) : State where
  vm := { classes := classes, interned := interned.toArray }
  heap := heap
  slotsUsed := slotsUsed
  threads := #[{ frames := .invoking theMethod args0 :: below }]
def below0 : List Frame := [.native { method := ⟨0, 0⟩, args := #[] }]
def about1 : State := aboutOver below0
def p0 : Program := .bare "" "" ""
def e0 : Env := launch0.env 0 0 0
theorem w_frames : about1.frames = Frame.invoking theMethod args0 :: below0 := rfl
set_option maxRecDepth 65536 in
theorem w_args : argsFit about1.vm theMethod args0 = true := by decide +kernel
set_option maxRecDepth 65536 in
theorem w_heap : heapFits about1 = true := by decide +kernel
set_option maxRecDepth 65536 in
theorem w_runnable : about1.curStatus? = some .runnable := by decide +kernel
set_option maxRecDepth 65536 in
theorem w_alone : about1.alone = true := by decide +kernel
set_option maxRecDepth 65536 in
theorem w_named : about1.methodNamed? x = some theMethod := by decide +kernel
set_option maxRecDepth 65536 in
theorem w_hears : about1.hears theMethod below0 = true := by decide +kernel
set_option maxRecDepth 65536 in
theorem w_ripe : about1.ripe theMethod args0 below0 = true := by decide +kernel
theorem w_running : about1.status = .running := rfl
set_option maxRecDepth 65536 in
theorem w_room : about1.hasRoom e0.platform room_1 = true :=
  launch0.hasRoom_least _ room_1 (by decide +kernel) (by decide +kernel) (by decide +kernel) (by decide +kernel) (by decide +kernel) (by decide +kernel)
theorem allAtoms_all (ts : List Jvm.Cond) (a : Array Jvm.Value) (st : Jvm.State) : (allAtoms ts).before a st = ts.all (fun c => c.before a st) := by
  induction ts with
  | nil => rfl
  | cons c t ih =>
    show (Jvm.Cond.and c (allAtoms t)).before a st = _
    rw [Jvm.Cond.before_and, ih, List.all_cons]
def words1 : List Jvm.Cond := Jvm.Cond.code x code maxLocals ret :: tables_1
/-- a 'code' word, met by the world's own term for the bytes: nothing is compared byte by byte -/
theorem code_word {y : MethodName} {bytes : ByteArray} {mx : Nat} {rt : Option FieldType} {a : Array Value} {s : State} {m : MethodId} {meth : Method} {c : Code} (h1 : s.methodNamed? y = some m) (h2 : s.vm.method? m = some meth) (h3 : meth.code = some c) (h4 : c.code = bytes)
    (h5 : (c.maxLocals == mx && c.exceptionTable.isEmpty && decide (c.maxStack ≤ mostOperands) && decide (meth.sig.returnType = rt) && !meth.locks && decide (parseMethodDescriptor y.desc = some meth.sig)) = true) : (Jvm.Cond.code y bytes mx rt).before a s = true := by
  simp only [Bool.and_eq_true, beq_iff_eq, Bool.not_eq_true', decide_eq_true_eq] at h5
  obtain ⟨⟨⟨⟨⟨g1, g2⟩, g3⟩, g4⟩, g5⟩, g6⟩ := h5
  simp [Cond.before, Cond.holds, Cond.value, h1, h2, h3, h4, g1, g2, g3, g4, g5, g6]
def isCode : Jvm.Cond → Bool
  | .code _ _ _ _ => true
  | _ => false
theorem all_split {L : List Jvm.Cond} {P : Jvm.Cond → Bool} (h1 : L.all (fun c => isCode c || P c) = true) (h2 : ∀ c ∈ L.filter isCode, P c = true) : L.all P = true := by
  refine List.all_eq_true.mpr fun c hc => ?_
  have h := List.all_eq_true.mp h1 c hc
  rcases Bool.eq_false_or_eq_true (isCode c) with hi | hi
  · exact h2 c (List.mem_filter.mpr ⟨hc, hi⟩)
  · simpa [hi] using h
set_option maxRecDepth 65536 in
theorem w_c0 : (Jvm.Cond.code x code maxLocals ret).before args0 about1 = true := code_word (m := ⟨1, 1⟩) (meth := k1m1) (c := k1c1) (by decide +kernel) rfl rfl rfl (by decide +kernel)
set_option maxRecDepth 65536 in
theorem w_c1 : (Jvm.Cond.code ({ cls := "com/example/vigilant_card/vigilantcard/Hex", name := "format", desc := "([B[BI)I" } : Jvm.MethodName) prog_43_method_3_code (8 : Nat) (Option.some Jvm.ClassFile.FieldType.int)).before args0 about1 = true := code_word (m := ⟨2, 1⟩) (meth := k2m1) (c := k2c1) (by decide +kernel) rfl rfl rfl (by decide +kernel)
set_option maxRecDepth 65536 in
theorem w_c2 : (Jvm.Cond.code ({ cls := "com/example/vigilant_card/vigilantcard/HexFormatPinLaw", name := "expected", desc := "(IIIBBB)B" } : Jvm.MethodName) method_3_code (9 : Nat) (Option.some Jvm.ClassFile.FieldType.byte)).before args0 about1 = true := code_word (m := ⟨1, 2⟩) (meth := k1m2) (c := k1c2) (by decide +kernel) rfl rfl rfl (by decide +kernel)
def codes1 : List Jvm.Cond := [Jvm.Cond.code x code maxLocals ret, Jvm.Cond.code ({ cls := "com/example/vigilant_card/vigilantcard/Hex", name := "format", desc := "([B[BI)I" } : Jvm.MethodName) prog_43_method_3_code (8 : Nat) (Option.some Jvm.ClassFile.FieldType.int), Jvm.Cond.code ({ cls := "com/example/vigilant_card/vigilantcard/HexFormatPinLaw", name := "expected", desc := "(IIIBBB)B" } : Jvm.MethodName) method_3_code (9 : Nat) (Option.some Jvm.ClassFile.FieldType.byte)]
set_option maxRecDepth 65536 in
theorem codes_eq : words1.filter isCode = codes1 := rfl
theorem w_codes : ∀ c ∈ words1.filter isCode, c.before args0 about1 = true := by
  rw [codes_eq]
  intro c hc
  simp only [codes1, List.mem_cons, List.not_mem_nil, or_false] at hc
  rcases hc with rfl | rfl | rfl
  · exact w_c0
  · exact w_c1
  · exact w_c2
set_option maxRecDepth 65536 in
theorem w_t1 : words1.all (fun c => isCode c || c.before args0 about1) = true := by decide +kernel
theorem w_tables : (allAtoms (Jvm.Cond.code x code maxLocals ret :: tables_1)).before args0 about1 = true := by
  rw [allAtoms_all]
  show words1.all (fun c => c.before args0 about1) = true
  refine all_split ?_ w_codes
  rw [w_t1]
set_option maxRecDepth 65536 in
theorem w_case : (Jvm.Cond.and given_1 narrow_1).before args0 about1 = true := by decide +kernel
theorem w_applies : (headSpec (Jvm.Cond.code x code maxLocals ret :: tables_1) room_1).applies x e0.platform about1 = true :=
  (Spec.applies_iff w_frames).mpr ⟨w_running, w_runnable, w_alone, w_named, w_hears, w_ripe, w_room, w_tables⟩
theorem atStart : AtStart classFile x code maxLocals ret World_1 tables_1 room_1 Calls_1 rest_1 Pre_1 launch0 p0 e0 about1 theMethod args0 below0 :=
  ⟨lists_1, trivial, launch0.admits_env _ _ _, launch0.least_env, fairChoices_fair.cas, fairChoices_fair.clock, w_frames, w_args, w_heap, w_applies, trivial, trivial, w_case⟩
end start1
theorem witness_1 : WitnessClaimed_1 := ⟨start1.p0, start1.e0, start1.about1, start1.theMethod, start1.args0, start1.below0, start1.atStart⟩
end Jvm.Pilot.@@N@@
