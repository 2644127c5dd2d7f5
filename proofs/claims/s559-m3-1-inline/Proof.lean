import JvmDerived
import JvmDerived.Pilot.@@N@@Statement
import JvmDerived.Pilot.@@N@@Code
set_option linter.unusedVariables false
set_option linter.unusedSimpArgs false
namespace Jvm.Pilot.@@N@@
open Jvm Jvm.ClassFile Sem Op Lib Jvm.Free Jvm.Stand Jvm.LawKit Jvm.RoadKit Bundle Jvm.Pilot.@@N@@.Jvm.D
section Layer
variable {p : Program} {l : Launch} {e : Env} {R : Room} {s : State} {m : MethodId} {args : Array Value} {below : List Frame} {meth : Method} {c : Code} {T : State} {locs : List Loc} {cells slots : Nat} {Q : Option Value → Heap → List Loc → Prop} {K N : Nat} {pc n : Nat} {Ls : Array Slot} {rest st : List Value} {Z : State} {a0 : Array Value} {h : Heap} {s0 : State} {vm0 : Vm} {QV : Vm → Prop} {FF : State → Outcome → State → List Loc → Nat → Nat → Prop}
/-- from st on the invocation ends as Q says -/
def Goes (FF : State → Outcome → State → List Loc → Nat → Nat → Prop) (QV : Vm → Prop) (p : Program) (e : Env) (below : List Frame) (s : State) (Q : Option Value → Heap → List Loc → Prop) (K N : Nat) (st : State) : Prop :=
  ∃ s₂ o, Steps p.tables e below st s₂ ∧ s₂.status = .running ∧ Ended s₂ below o ∧ ∃ v L, o = .returned v ∧ Q v s₂.heap L ∧ QV s₂.vm ∧ FF s o s₂ L K N
theorem Goes.via {st st' : State} (g : Goes FF QV p e below s0 Q K N st') (h : ∀ t, Steps p.tables e below st' t → Steps p.tables e below st t) : Goes FF QV p e below s0 Q K N st := by
  obtain ⟨s₂, o, h1, r⟩ := g
  exact ⟨s₂, o, h _ h1, r⟩
/-- a body's contract -/
def Does (l : Launch) (Z : State) (y : MethodName) (bytes : ByteArray) (maxL : Nat) (ret : Option FieldType) (ws : List Jvm.Cond) (rm : Room) (as : Array Value) (h : Heap) (Q : Option Value → Heap → List Loc → Prop) : Prop :=
  MetFree l y (head1 (Jvm.Cond.code y bytes maxL ret :: ws) rm) (fun a U => a = as ∧ Z.Warmed39 U.vm ∧ U.heap = h) (fun _ _ _ _ _ => True) (fun _ U o U' => ∃ v L, o = .returned v ∧ Q v U'.heap L ∧ FrameEnd U o U' L rm.cells rm.slots)
theorem Does.of {y : MethodName} {bytes : ByteArray} {maxL : Nat} {ret : Option FieldType} {ws : List Jvm.Cond} {rm : Room} {as : Array Value} (hpl : plainFor y = true)
    (body : ∀ (p : Program) (e : Env) (s : State) (m : MethodId) (below : List Frame) (meth : Method) (c : Code) (T : State), p.tables.exec = Jvm.exec → c.code = bytes → c.maxLocals = maxL → s.vm.findClass y.cls = some m.cls → meth.name = y.name → meth.sig.returnType = ret → meth.locks = false → Z.Warmed39 s.vm → Stand p l e rm s m as below meth c T [] 0 0 → T.heap = h → Goes FrameEnd (fun _ => True) p e below s Q rm.cells rm.slots (T.setTop (entryFrame m as maxL))) : Does l Z y bytes maxL ret ws rm as h Q := by
  refine MetFree.of_bodySF hpl hisR ?_
  intro p e s m args below meth c s₁ Bd hml0 hP hK
  obtain ⟨rfl, hZ, hh⟩ := hP
  have X0 : Stand p l e rm s m args below meth c s₁ [] 0 0 := Stand.of_body Bd
  obtain ⟨s2, o, h1, h2, h3, v, L, e1, q, -, f⟩ := body p e s m below meth c s₁ Bd.exec Bd.bytes hml0 (findClass_of_methodNamed Bd.named) (name_of_methodNamed Bd.named Bd.method).1 Bd.returns Bd.notSynchronized hZ X0 (by rw [← hh, Bd.state]; rfl)
  exact ⟨s2, o, h1, h2, h3, v, L, e1, q, f⟩
theorem o_mono {c' s' : Nat} (X : Stand p l e R s m args below meth c T locs cells slots) (h1 : cells ≤ c') (h2 : slots ≤ s') : Stand p l e R s m args below meth c T locs c' s' := { X with same := X.same.mono h1 h2 }
theorem o_nem {y z : Addr} {L : List Addr} (q : y ∉ L) (k : z ∈ L) : y ≠ z := fun e => q (e ▸ k)
theorem o_entry {as : Array Value} {maxL : Nat} (q : entryFrame m as maxL = mkF m 0 Ls []) (g : Goes FF QV p e below s0 Q K N (T.setTop (mkF m 0 Ls []))) : Goes FF QV p e below s0 Q K N (T.setTop (entryFrame m as maxL)) := q ▸ g
theorem o_iload (X : Stand p l e R s m args below meth c T locs cells slots) (hx : p.tables.exec = Jvm.exec) {j : Nat} {v : Int32} (hd : decode c.code pc = .ok (.iload j, 2)) (hl : Ls[j]? = some (.val (.int v))) (hn : pc + 2 = n) (g : Goes FF QV p e below s0 Q K N (T.setTop (mkF m n Ls (.int v :: st)))) : Goes FF QV p e below s0 Q K N (T.setTop (mkF m pc Ls st)) := by
  subst hn
  exact g.via fun t k => XS.iload X.here hx rfl hd hl k
theorem o_iloadN (X : Stand p l e R s m args below meth c T locs cells slots) (hx : p.tables.exec = Jvm.exec) {j : Fin 4} {v : Int32} (hd : decode c.code pc = .ok (.iload_n j, 1)) (hl : Ls[j.val]? = some (.val (.int v))) (hn : pc + 1 = n) (g : Goes FF QV p e below s0 Q K N (T.setTop (mkF m n Ls (.int v :: st)))) : Goes FF QV p e below s0 Q K N (T.setTop (mkF m pc Ls st)) := by
  subst hn
  exact g.via fun t k => XS.iloadN X.here hx rfl hd hl k
theorem o_lload (X : Stand p l e R s m args below meth c T locs cells slots) (hx : p.tables.exec = Jvm.exec) {j : Nat} {v : Int64} (hd : decode c.code pc = .ok (.lload j, 2)) (hl : Ls[j]? = some (.val (.long v))) (hn : pc + 2 = n) (g : Goes FF QV p e below s0 Q K N (T.setTop (mkF m n Ls (.long v :: st)))) : Goes FF QV p e below s0 Q K N (T.setTop (mkF m pc Ls st)) := by
  subst hn
  exact g.via fun t k => XS.lload X.here hx rfl hd hl k
theorem o_lloadN (X : Stand p l e R s m args below meth c T locs cells slots) (hx : p.tables.exec = Jvm.exec) {j : Fin 4} {v : Int64} (hd : decode c.code pc = .ok (.lload_n j, 1)) (hl : Ls[j.val]? = some (.val (.long v))) (hn : pc + 1 = n) (g : Goes FF QV p e below s0 Q K N (T.setTop (mkF m n Ls (.long v :: st)))) : Goes FF QV p e below s0 Q K N (T.setTop (mkF m pc Ls st)) := by
  subst hn
  exact g.via fun t k => XS.lloadN X.here hx rfl hd hl k
theorem o_aload (X : Stand p l e R s m args below meth c T locs cells slots) (hx : p.tables.exec = Jvm.exec) {j : Nat} {v : Value} (hd : decode c.code pc = .ok (.aload j, 2)) (hl : Ls[j]? = some (.val v)) (hv : v.isRef = true) (hn : pc + 2 = n) (g : Goes FF QV p e below s0 Q K N (T.setTop (mkF m n Ls (v :: st)))) : Goes FF QV p e below s0 Q K N (T.setTop (mkF m pc Ls st)) := by
  subst hn
  exact g.via fun t k => XS.aload X.here hx rfl hd hl hv k
theorem o_aloadN (X : Stand p l e R s m args below meth c T locs cells slots) (hx : p.tables.exec = Jvm.exec) {j : Fin 4} {v : Value} (hd : decode c.code pc = .ok (.aload_n j, 1)) (hl : Ls[j.val]? = some (.val v)) (hv : v.isRef = true) (hn : pc + 1 = n) (g : Goes FF QV p e below s0 Q K N (T.setTop (mkF m n Ls (v :: st)))) : Goes FF QV p e below s0 Q K N (T.setTop (mkF m pc Ls st)) := by
  subst hn
  exact g.via fun t k => XS.aloadN X.here hx rfl hd hl hv k
theorem o_istore (X : Stand p l e R s m args below meth c T locs cells slots) (hx : p.tables.exec = Jvm.exec) {j : Nat} {v : Int32} {Ls' : Array Slot} (hd : decode c.code pc = .ok (.istore j, 2)) (hl : storeLocals Ls j (.int v) = some Ls') (hn : pc + 2 = n) (g : Goes FF QV p e below s0 Q K N (T.setTop (mkF m n Ls' rest))) : Goes FF QV p e below s0 Q K N (T.setTop (mkF m pc Ls (.int v :: rest))) := by
  subst hn
  exact g.via fun t k => XS.istore X.here hx rfl hd rfl hl k
theorem o_istoreN (X : Stand p l e R s m args below meth c T locs cells slots) (hx : p.tables.exec = Jvm.exec) {j : Fin 4} {v : Int32} {Ls' : Array Slot} (hd : decode c.code pc = .ok (.istore_n j, 1)) (hl : storeLocals Ls j.val (.int v) = some Ls') (hn : pc + 1 = n) (g : Goes FF QV p e below s0 Q K N (T.setTop (mkF m n Ls' rest))) : Goes FF QV p e below s0 Q K N (T.setTop (mkF m pc Ls (.int v :: rest))) := by
  subst hn
  exact g.via fun t k => XS.istoreN X.here hx rfl hd rfl hl k
theorem o_lstore (X : Stand p l e R s m args below meth c T locs cells slots) (hx : p.tables.exec = Jvm.exec) {j : Nat} {v : Int64} {Ls' : Array Slot} (hd : decode c.code pc = .ok (.lstore j, 2)) (hl : storeLocals Ls j (.long v) = some Ls') (hn : pc + 2 = n) (g : Goes FF QV p e below s0 Q K N (T.setTop (mkF m n Ls' rest))) : Goes FF QV p e below s0 Q K N (T.setTop (mkF m pc Ls (.long v :: rest))) := by
  subst hn
  exact g.via fun t k => XS.lstore X.here hx rfl hd rfl hl k
theorem o_lstoreN (X : Stand p l e R s m args below meth c T locs cells slots) (hx : p.tables.exec = Jvm.exec) {j : Fin 4} {v : Int64} {Ls' : Array Slot} (hd : decode c.code pc = .ok (.lstore_n j, 1)) (hl : storeLocals Ls j.val (.long v) = some Ls') (hn : pc + 1 = n) (g : Goes FF QV p e below s0 Q K N (T.setTop (mkF m n Ls' rest))) : Goes FF QV p e below s0 Q K N (T.setTop (mkF m pc Ls (.long v :: rest))) := by
  subst hn
  exact g.via fun t k => XS.lstoreN X.here hx rfl hd rfl hl k
theorem o_astore (X : Stand p l e R s m args below meth c T locs cells slots) (hx : p.tables.exec = Jvm.exec) {j : Nat} {v : Value} {Ls' : Array Slot} (hd : decode c.code pc = .ok (.astore j, 2)) (hv : v.isRef = true) (hl : storeLocals Ls j v = some Ls') (hn : pc + 2 = n) (g : Goes FF QV p e below s0 Q K N (T.setTop (mkF m n Ls' rest))) : Goes FF QV p e below s0 Q K N (T.setTop (mkF m pc Ls (v :: rest))) := by
  subst hn
  exact g.via fun t k => XS.astore X.here hx rfl hd rfl hv hl k
theorem o_astoreN (X : Stand p l e R s m args below meth c T locs cells slots) (hx : p.tables.exec = Jvm.exec) {j : Fin 4} {v : Value} {Ls' : Array Slot} (hd : decode c.code pc = .ok (.astore_n j, 1)) (hv : v.isRef = true) (hl : storeLocals Ls j.val v = some Ls') (hn : pc + 1 = n) (g : Goes FF QV p e below s0 Q K N (T.setTop (mkF m n Ls' rest))) : Goes FF QV p e below s0 Q K N (T.setTop (mkF m pc Ls (v :: rest))) := by
  subst hn
  exact g.via fun t k => XS.astoreN X.here hx rfl hd rfl hv hl k
theorem o_iinc (X : Stand p l e R s m args below meth c T locs cells slots) (hx : p.tables.exec = Jvm.exec) {j : Nat} {cst : Int} {x w : Int32} {Ls' : Array Slot} (hd : decode c.code pc = .ok (.iinc j cst, 3)) (hl : Ls[j]? = some (.val (.int x))) (hw : x + Int32.ofInt cst = w) (hl' : storeLocals Ls j (.int w) = some Ls') (hn : pc + 3 = n) (g : Goes FF QV p e below s0 Q K N (T.setTop (mkF m n Ls' st))) : Goes FF QV p e below s0 Q K N (T.setTop (mkF m pc Ls st)) := by
  subst hn
  exact g.via fun t k => XS.iinc X.here hx rfl hd hl (by rw [hw]; exact hl') k
theorem o_iconst (X : Stand p l e R s m args below meth c T locs cells slots) (hx : p.tables.exec = Jvm.exec) {i : Int} {v : Int32} (hd : decode c.code pc = .ok (.iconst i, 1)) (hv : Int32.ofInt i = v) (hn : pc + 1 = n) (g : Goes FF QV p e below s0 Q K N (T.setTop (mkF m n Ls (.int v :: st)))) : Goes FF QV p e below s0 Q K N (T.setTop (mkF m pc Ls st)) := by
  subst hn hv
  exact g.via fun t k => XS.iconst X.here hx rfl hd k
theorem o_bipush (X : Stand p l e R s m args below meth c T locs cells slots) (hx : p.tables.exec = Jvm.exec) {i : Int} {v : Int32} (hd : decode c.code pc = .ok (.bipush i, 2)) (hv : (Int8.ofInt i).toInt32 = v) (hn : pc + 2 = n) (g : Goes FF QV p e below s0 Q K N (T.setTop (mkF m n Ls (.int v :: st)))) : Goes FF QV p e below s0 Q K N (T.setTop (mkF m pc Ls st)) := by
  subst hn hv
  exact g.via fun t k => XS.bipush X.here hx rfl hd k
theorem o_sipush (X : Stand p l e R s m args below meth c T locs cells slots) (hx : p.tables.exec = Jvm.exec) {i : Int} {v : Int32} (hd : decode c.code pc = .ok (.sipush i, 3)) (hv : (Int16.ofInt i).toInt32 = v) (hn : pc + 3 = n) (g : Goes FF QV p e below s0 Q K N (T.setTop (mkF m n Ls (.int v :: st)))) : Goes FF QV p e below s0 Q K N (T.setTop (mkF m pc Ls st)) := by
  subst hn hv
  exact g.via fun t k => XS.sipush X.here hx rfl hd k
theorem o_lconst (X : Stand p l e R s m args below meth c T locs cells slots) (hx : p.tables.exec = Jvm.exec) {j : Fin 2} {v : Int64} (hd : decode c.code pc = .ok (.lconst j, 1)) (hv : Int64.ofNat j = v) (hn : pc + 1 = n) (g : Goes FF QV p e below s0 Q K N (T.setTop (mkF m n Ls (.long v :: st)))) : Goes FF QV p e below s0 Q K N (T.setTop (mkF m pc Ls st)) := by
  subst hn hv
  exact g.via fun t k => XS.lconst X.here hx rfl hd k
theorem o_aconst_null (X : Stand p l e R s m args below meth c T locs cells slots) (hx : p.tables.exec = Jvm.exec)  (hd : decode c.code pc = .ok (.aconst_null, 1)) (hn : pc + 1 = n) (g : Goes FF QV p e below s0 Q K N (T.setTop (mkF m n Ls (.null :: st)))) : Goes FF QV p e below s0 Q K N (T.setTop (mkF m pc Ls st)) := by
  subst hn
  exact g.via fun t k => XS.aconstNull X.here hx rfl hd k
theorem o_ldc (X : Stand p l e R s m args below meth c T locs cells slots) (hx : p.tables.exec = Jvm.exec)  (hZ : Z.Warmed39 s.vm) {own : String} {index : Nat} {v : Int32} (hown : s.vm.findClass own = some m.cls) (w : (Jvm.Cond.constant own index v).before a0 Z = true) (hd : decode c.code pc = .ok (.ldc index, 2)) (hn : pc + 2 = n) (g : Goes FF QV p e below s0 Q K N (T.setTop (mkF m n Ls (.int v :: st)))) : Goes FF QV p e below s0 Q K N (T.setTop (mkF m pc Ls st)) := by
  subst hn
  exact g.via fun t k => X.ldcInt hx hown (mvT hZ w) (g := mkF m pc Ls st) rfl hd t k
theorem o_ldc_w (X : Stand p l e R s m args below meth c T locs cells slots) (hx : p.tables.exec = Jvm.exec)  (hZ : Z.Warmed39 s.vm) {own : String} {index : Nat} {v : Int32} (hown : s.vm.findClass own = some m.cls) (w : (Jvm.Cond.constant own index v).before a0 Z = true) (hd : decode c.code pc = .ok (.ldc_w index, 3)) (hn : pc + 3 = n) (g : Goes FF QV p e below s0 Q K N (T.setTop (mkF m n Ls (.int v :: st)))) : Goes FF QV p e below s0 Q K N (T.setTop (mkF m pc Ls st)) := by
  subst hn
  exact g.via fun t k => X.ldcWInt hx hown (mvT hZ w) (g := mkF m pc Ls st) rfl hd t k
theorem o_ldc2_w (X : Stand p l e R s m args below meth c T locs cells slots) (hx : p.tables.exec = Jvm.exec)  (hZ : Z.Warmed39 s.vm) {own : String} {index : Nat} {v : Int64} (hown : s.vm.findClass own = some m.cls) (w : (Jvm.Cond.constantLong own index v).before a0 Z = true) (hd : decode c.code pc = .ok (.ldc2_w index, 3)) (hn : pc + 3 = n) (g : Goes FF QV p e below s0 Q K N (T.setTop (mkF m n Ls (.long v :: st)))) : Goes FF QV p e below s0 Q K N (T.setTop (mkF m pc Ls st)) := by
  subst hn
  exact g.via fun t k => X.ldc2Long hx hown (mvT hZ w) (g := mkF m pc Ls st) rfl hd t k
theorem o_iadd (X : Stand p l e R s m args below meth c T locs cells slots) (hx : p.tables.exec = Jvm.exec) {x y v : Int32} (hd : decode c.code pc = .ok (.iadd, 1)) (hv : x + y = v) (hn : pc + 1 = n) (g : Goes FF QV p e below s0 Q K N (T.setTop (mkF m n Ls (.int v :: rest)))) : Goes FF QV p e below s0 Q K N (T.setTop (mkF m pc Ls (.int y :: .int x :: rest))) := by
  subst hn hv
  exact g.via fun t k => XS.iadd X.here hx rfl hd rfl k
theorem o_isub (X : Stand p l e R s m args below meth c T locs cells slots) (hx : p.tables.exec = Jvm.exec) {x y v : Int32} (hd : decode c.code pc = .ok (.isub, 1)) (hv : x - y = v) (hn : pc + 1 = n) (g : Goes FF QV p e below s0 Q K N (T.setTop (mkF m n Ls (.int v :: rest)))) : Goes FF QV p e below s0 Q K N (T.setTop (mkF m pc Ls (.int y :: .int x :: rest))) := by
  subst hn hv
  exact g.via fun t k => XS.isub X.here hx rfl hd rfl k
theorem o_imul (X : Stand p l e R s m args below meth c T locs cells slots) (hx : p.tables.exec = Jvm.exec) {x y v : Int32} (hd : decode c.code pc = .ok (.imul, 1)) (hv : x * y = v) (hn : pc + 1 = n) (g : Goes FF QV p e below s0 Q K N (T.setTop (mkF m n Ls (.int v :: rest)))) : Goes FF QV p e below s0 Q K N (T.setTop (mkF m pc Ls (.int y :: .int x :: rest))) := by
  subst hn hv
  exact g.via fun t k => XS.imul X.here hx rfl hd rfl k
theorem o_iand (X : Stand p l e R s m args below meth c T locs cells slots) (hx : p.tables.exec = Jvm.exec) {x y v : Int32} (hd : decode c.code pc = .ok (.iand, 1)) (hv : x &&& y = v) (hn : pc + 1 = n) (g : Goes FF QV p e below s0 Q K N (T.setTop (mkF m n Ls (.int v :: rest)))) : Goes FF QV p e below s0 Q K N (T.setTop (mkF m pc Ls (.int y :: .int x :: rest))) := by
  subst hn hv
  exact g.via fun t k => XS.iand X.here hx rfl hd rfl k
theorem o_ior (X : Stand p l e R s m args below meth c T locs cells slots) (hx : p.tables.exec = Jvm.exec) {x y v : Int32} (hd : decode c.code pc = .ok (.ior, 1)) (hv : x ||| y = v) (hn : pc + 1 = n) (g : Goes FF QV p e below s0 Q K N (T.setTop (mkF m n Ls (.int v :: rest)))) : Goes FF QV p e below s0 Q K N (T.setTop (mkF m pc Ls (.int y :: .int x :: rest))) := by
  subst hn hv
  exact g.via fun t k => XS.ior X.here hx rfl hd rfl k
theorem o_ixor (X : Stand p l e R s m args below meth c T locs cells slots) (hx : p.tables.exec = Jvm.exec) {x y v : Int32} (hd : decode c.code pc = .ok (.ixor, 1)) (hv : x ^^^ y = v) (hn : pc + 1 = n) (g : Goes FF QV p e below s0 Q K N (T.setTop (mkF m n Ls (.int v :: rest)))) : Goes FF QV p e below s0 Q K N (T.setTop (mkF m pc Ls (.int y :: .int x :: rest))) := by
  subst hn hv
  exact g.via fun t k => XS.ixor X.here hx rfl hd rfl k
theorem o_ladd (X : Stand p l e R s m args below meth c T locs cells slots) (hx : p.tables.exec = Jvm.exec) {x y v : Int64} (hd : decode c.code pc = .ok (.ladd, 1)) (hv : x + y = v) (hn : pc + 1 = n) (g : Goes FF QV p e below s0 Q K N (T.setTop (mkF m n Ls (.long v :: rest)))) : Goes FF QV p e below s0 Q K N (T.setTop (mkF m pc Ls (.long y :: .long x :: rest))) := by
  subst hn hv
  exact g.via fun t k => XS.ladd X.here hx rfl hd rfl k
theorem o_lsub (X : Stand p l e R s m args below meth c T locs cells slots) (hx : p.tables.exec = Jvm.exec) {x y v : Int64} (hd : decode c.code pc = .ok (.lsub, 1)) (hv : x - y = v) (hn : pc + 1 = n) (g : Goes FF QV p e below s0 Q K N (T.setTop (mkF m n Ls (.long v :: rest)))) : Goes FF QV p e below s0 Q K N (T.setTop (mkF m pc Ls (.long y :: .long x :: rest))) := by
  subst hn hv
  exact g.via fun t k => XS.lsub X.here hx rfl hd rfl k
theorem o_lmul (X : Stand p l e R s m args below meth c T locs cells slots) (hx : p.tables.exec = Jvm.exec) {x y v : Int64} (hd : decode c.code pc = .ok (.lmul, 1)) (hv : x * y = v) (hn : pc + 1 = n) (g : Goes FF QV p e below s0 Q K N (T.setTop (mkF m n Ls (.long v :: rest)))) : Goes FF QV p e below s0 Q K N (T.setTop (mkF m pc Ls (.long y :: .long x :: rest))) := by
  subst hn hv
  exact g.via fun t k => XS.lmul X.here hx rfl hd rfl k
theorem o_land (X : Stand p l e R s m args below meth c T locs cells slots) (hx : p.tables.exec = Jvm.exec) {x y v : Int64} (hd : decode c.code pc = .ok (.land, 1)) (hv : x &&& y = v) (hn : pc + 1 = n) (g : Goes FF QV p e below s0 Q K N (T.setTop (mkF m n Ls (.long v :: rest)))) : Goes FF QV p e below s0 Q K N (T.setTop (mkF m pc Ls (.long y :: .long x :: rest))) := by
  subst hn hv
  exact g.via fun t k => XS.land X.here hx rfl hd rfl k
theorem o_lor (X : Stand p l e R s m args below meth c T locs cells slots) (hx : p.tables.exec = Jvm.exec) {x y v : Int64} (hd : decode c.code pc = .ok (.lor, 1)) (hv : x ||| y = v) (hn : pc + 1 = n) (g : Goes FF QV p e below s0 Q K N (T.setTop (mkF m n Ls (.long v :: rest)))) : Goes FF QV p e below s0 Q K N (T.setTop (mkF m pc Ls (.long y :: .long x :: rest))) := by
  subst hn hv
  exact g.via fun t k => XS.lor X.here hx rfl hd rfl k
theorem o_lxor (X : Stand p l e R s m args below meth c T locs cells slots) (hx : p.tables.exec = Jvm.exec) {x y v : Int64} (hd : decode c.code pc = .ok (.lxor, 1)) (hv : x ^^^ y = v) (hn : pc + 1 = n) (g : Goes FF QV p e below s0 Q K N (T.setTop (mkF m n Ls (.long v :: rest)))) : Goes FF QV p e below s0 Q K N (T.setTop (mkF m pc Ls (.long y :: .long x :: rest))) := by
  subst hn hv
  exact g.via fun t k => XS.lxor X.here hx rfl hd rfl k
theorem o_idiv (X : Stand p l e R s m args below meth c T locs cells slots) (hx : p.tables.exec = Jvm.exec) {x y v : Int32} (hd : decode c.code pc = .ok (.idiv, 1)) (hy : y ≠ 0) (hv : x / y = v) (hn : pc + 1 = n) (g : Goes FF QV p e below s0 Q K N (T.setTop (mkF m n Ls (.int v :: rest)))) : Goes FF QV p e below s0 Q K N (T.setTop (mkF m pc Ls (.int y :: .int x :: rest))) := by
  subst hn hv
  exact g.via fun t k => XS.idiv X.here hx rfl hd rfl hy k
theorem o_irem (X : Stand p l e R s m args below meth c T locs cells slots) (hx : p.tables.exec = Jvm.exec) {x y v : Int32} (hd : decode c.code pc = .ok (.irem, 1)) (hy : y ≠ 0) (hv : x % y = v) (hn : pc + 1 = n) (g : Goes FF QV p e below s0 Q K N (T.setTop (mkF m n Ls (.int v :: rest)))) : Goes FF QV p e below s0 Q K N (T.setTop (mkF m pc Ls (.int y :: .int x :: rest))) := by
  subst hn hv
  exact g.via fun t k => iremM X hx (g := mkF m pc Ls _) rfl hd rfl hy k
theorem o_ldiv (X : Stand p l e R s m args below meth c T locs cells slots) (hx : p.tables.exec = Jvm.exec) {x y v : Int64} (hd : decode c.code pc = .ok (.ldiv, 1)) (hy : y ≠ 0) (hv : x / y = v) (hn : pc + 1 = n) (g : Goes FF QV p e below s0 Q K N (T.setTop (mkF m n Ls (.long v :: rest)))) : Goes FF QV p e below s0 Q K N (T.setTop (mkF m pc Ls (.long y :: .long x :: rest))) := by
  subst hn hv
  exact g.via fun t k => XS.ldiv X.here hx rfl hd rfl hy k
theorem o_lrem (X : Stand p l e R s m args below meth c T locs cells slots) (hx : p.tables.exec = Jvm.exec) {x y v : Int64} (hd : decode c.code pc = .ok (.lrem, 1)) (hy : y ≠ 0) (hv : x % y = v) (hn : pc + 1 = n) (g : Goes FF QV p e below s0 Q K N (T.setTop (mkF m n Ls (.long v :: rest)))) : Goes FF QV p e below s0 Q K N (T.setTop (mkF m pc Ls (.long y :: .long x :: rest))) := by
  subst hn hv
  exact g.via fun t k => XS.lrem X.here hx rfl hd rfl hy (by rw [lrem_mod]; exact k)
theorem o_ishl (X : Stand p l e R s m args below meth c T locs cells slots) (hx : p.tables.exec = Jvm.exec) {x y v : Int32} (hd : decode c.code pc = .ok (.ishl, 1)) (hv : x <<< (y &&& 31) = v) (hn : pc + 1 = n) (g : Goes FF QV p e below s0 Q K N (T.setTop (mkF m n Ls (.int v :: rest)))) : Goes FF QV p e below s0 Q K N (T.setTop (mkF m pc Ls (.int y :: .int x :: rest))) := by
  subst hn hv
  exact g.via fun t k => XS.ishl X.here hx rfl hd rfl k
theorem o_ishr (X : Stand p l e R s m args below meth c T locs cells slots) (hx : p.tables.exec = Jvm.exec) {x y v : Int32} (hd : decode c.code pc = .ok (.ishr, 1)) (hv : x >>> (y &&& 31) = v) (hn : pc + 1 = n) (g : Goes FF QV p e below s0 Q K N (T.setTop (mkF m n Ls (.int v :: rest)))) : Goes FF QV p e below s0 Q K N (T.setTop (mkF m pc Ls (.int y :: .int x :: rest))) := by
  subst hn hv
  exact g.via fun t k => XS.ishr X.here hx rfl hd rfl k
theorem o_iushr (X : Stand p l e R s m args below meth c T locs cells slots) (hx : p.tables.exec = Jvm.exec) {x y v : Int32} (hd : decode c.code pc = .ok (.iushr, 1)) (hv : (x.toUInt32 >>> (y &&& 31).toUInt32).toInt32 = v) (hn : pc + 1 = n) (g : Goes FF QV p e below s0 Q K N (T.setTop (mkF m n Ls (.int v :: rest)))) : Goes FF QV p e below s0 Q K N (T.setTop (mkF m pc Ls (.int y :: .int x :: rest))) := by
  subst hn hv
  exact g.via fun t k => XS.iushr X.here hx rfl hd rfl k
theorem o_lshl (X : Stand p l e R s m args below meth c T locs cells slots) (hx : p.tables.exec = Jvm.exec) {x v : Int64} {y : Int32} (hd : decode c.code pc = .ok (.lshl, 1)) (hv : x <<< (y &&& 0x3f).toInt64 = v) (hn : pc + 1 = n) (g : Goes FF QV p e below s0 Q K N (T.setTop (mkF m n Ls (.long v :: rest)))) : Goes FF QV p e below s0 Q K N (T.setTop (mkF m pc Ls (.int y :: .long x :: rest))) := by
  subst hn hv
  exact g.via fun t k => XS.lshl X.here hx rfl hd rfl k
theorem o_lshr (X : Stand p l e R s m args below meth c T locs cells slots) (hx : p.tables.exec = Jvm.exec) {x v : Int64} {y : Int32} (hd : decode c.code pc = .ok (.lshr, 1)) (hv : x >>> (y &&& 0x3f).toInt64 = v) (hn : pc + 1 = n) (g : Goes FF QV p e below s0 Q K N (T.setTop (mkF m n Ls (.long v :: rest)))) : Goes FF QV p e below s0 Q K N (T.setTop (mkF m pc Ls (.int y :: .long x :: rest))) := by
  subst hn hv
  exact g.via fun t k => XS.lshr X.here hx rfl hd rfl k
theorem o_lushr (X : Stand p l e R s m args below meth c T locs cells slots) (hx : p.tables.exec = Jvm.exec) {x v : Int64} {y : Int32} (hd : decode c.code pc = .ok (.lushr, 1)) (hv : (x.toUInt64 >>> (y &&& 0x3f).toInt64.toUInt64).toInt64 = v) (hn : pc + 1 = n) (g : Goes FF QV p e below s0 Q K N (T.setTop (mkF m n Ls (.long v :: rest)))) : Goes FF QV p e below s0 Q K N (T.setTop (mkF m pc Ls (.int y :: .long x :: rest))) := by
  subst hn hv
  exact g.via fun t k => XS.lushr X.here hx rfl hd rfl k
theorem o_i2l (X : Stand p l e R s m args below meth c T locs cells slots) (hx : p.tables.exec = Jvm.exec) {x : Int32} {v : Int64} (hd : decode c.code pc = .ok (.i2l, 1)) (hv : x.toInt64 = v) (hn : pc + 1 = n) (g : Goes FF QV p e below s0 Q K N (T.setTop (mkF m n Ls (.long v :: rest)))) : Goes FF QV p e below s0 Q K N (T.setTop (mkF m pc Ls (.int x :: rest))) := by
  subst hn hv
  exact g.via fun t k => XS.i2l X.here hx rfl hd rfl k
theorem o_l2i (X : Stand p l e R s m args below meth c T locs cells slots) (hx : p.tables.exec = Jvm.exec) {x : Int64} {v : Int32} (hd : decode c.code pc = .ok (.l2i, 1)) (hv : x.toInt32 = v) (hn : pc + 1 = n) (g : Goes FF QV p e below s0 Q K N (T.setTop (mkF m n Ls (.int v :: rest)))) : Goes FF QV p e below s0 Q K N (T.setTop (mkF m pc Ls (.long x :: rest))) := by
  subst hn hv
  exact g.via fun t k => XS.l2i X.here hx rfl hd rfl k
theorem o_i2b (X : Stand p l e R s m args below meth c T locs cells slots) (hx : p.tables.exec = Jvm.exec) {x : Int32} {v : Int32} (hd : decode c.code pc = .ok (.i2b, 1)) (hv : x.toInt8.toInt32 = v) (hn : pc + 1 = n) (g : Goes FF QV p e below s0 Q K N (T.setTop (mkF m n Ls (.int v :: rest)))) : Goes FF QV p e below s0 Q K N (T.setTop (mkF m pc Ls (.int x :: rest))) := by
  subst hn hv
  exact g.via fun t k => XS.i2b X.here hx rfl hd rfl k
theorem o_i2c (X : Stand p l e R s m args below meth c T locs cells slots) (hx : p.tables.exec = Jvm.exec) {x : Int32} {v : Int32} (hd : decode c.code pc = .ok (.i2c, 1)) (hv : x.toUInt32.toUInt16.toUInt32.toInt32 = v) (hn : pc + 1 = n) (g : Goes FF QV p e below s0 Q K N (T.setTop (mkF m n Ls (.int v :: rest)))) : Goes FF QV p e below s0 Q K N (T.setTop (mkF m pc Ls (.int x :: rest))) := by
  subst hn hv
  exact g.via fun t k => XS.i2c X.here hx rfl hd rfl k
theorem o_i2s (X : Stand p l e R s m args below meth c T locs cells slots) (hx : p.tables.exec = Jvm.exec) {x : Int32} {v : Int32} (hd : decode c.code pc = .ok (.i2s, 1)) (hv : x.toInt16.toInt32 = v) (hn : pc + 1 = n) (g : Goes FF QV p e below s0 Q K N (T.setTop (mkF m n Ls (.int v :: rest)))) : Goes FF QV p e below s0 Q K N (T.setTop (mkF m pc Ls (.int x :: rest))) := by
  subst hn hv
  exact g.via fun t k => XS.i2s X.here hx rfl hd rfl k
theorem o_ineg (X : Stand p l e R s m args below meth c T locs cells slots) (hx : p.tables.exec = Jvm.exec) {x : Int32} {v : Int32} (hd : decode c.code pc = .ok (.ineg, 1)) (hv : -x = v) (hn : pc + 1 = n) (g : Goes FF QV p e below s0 Q K N (T.setTop (mkF m n Ls (.int v :: rest)))) : Goes FF QV p e below s0 Q K N (T.setTop (mkF m pc Ls (.int x :: rest))) := by
  subst hn hv
  exact g.via fun t k => XS.ineg X.here hx rfl hd rfl k
theorem o_lneg (X : Stand p l e R s m args below meth c T locs cells slots) (hx : p.tables.exec = Jvm.exec) {x : Int64} {v : Int64} (hd : decode c.code pc = .ok (.lneg, 1)) (hv : -x = v) (hn : pc + 1 = n) (g : Goes FF QV p e below s0 Q K N (T.setTop (mkF m n Ls (.long v :: rest)))) : Goes FF QV p e below s0 Q K N (T.setTop (mkF m pc Ls (.long x :: rest))) := by
  subst hn hv
  exact g.via fun t k => XS.lneg X.here hx rfl hd rfl k
theorem o_lcmp (X : Stand p l e R s m args below meth c T locs cells slots) (hx : p.tables.exec = Jvm.exec) {x y : Int64} (hd : decode c.code pc = .ok (.lcmp, 1)) (hn : pc + 1 = n) (g : Goes FF QV p e below s0 Q K N (T.setTop (mkF m n Ls (.int (XT.cmpL x y) :: rest)))) : Goes FF QV p e below s0 Q K N (T.setTop (mkF m pc Ls (.long y :: .long x :: rest))) := by
  subst hn
  exact g.via fun t k => XT.lcmp X.here hx rfl hd rfl k
theorem o_dup (X : Stand p l e R s m args below meth c T locs cells slots) (hx : p.tables.exec = Jvm.exec) {v : Value} (hd : decode c.code pc = .ok (.dup, 1)) (hv : v.category = 1) (hn : pc + 1 = n) (g : Goes FF QV p e below s0 Q K N (T.setTop (mkF m n Ls (v :: v :: rest)))) : Goes FF QV p e below s0 Q K N (T.setTop (mkF m pc Ls (v :: rest))) := by
  subst hn
  exact g.via fun t k => XS.dup X.here hx rfl hd rfl hv k
theorem o_dup_x1 (X : Stand p l e R s m args below meth c T locs cells slots) (hx : p.tables.exec = Jvm.exec) {v w : Value} (hd : decode c.code pc = .ok (.dup_x1, 1)) (hv : v.category = 1) (hw : w.category = 1) (hn : pc + 1 = n) (g : Goes FF QV p e below s0 Q K N (T.setTop (mkF m n Ls (v :: w :: v :: rest)))) : Goes FF QV p e below s0 Q K N (T.setTop (mkF m pc Ls (v :: w :: rest))) := by
  subst hn
  exact g.via fun t k => XS.dupX1 X.here hx rfl hd rfl hv hw k
theorem o_dup2 (X : Stand p l e R s m args below meth c T locs cells slots) (hx : p.tables.exec = Jvm.exec) {v w : Value} (hd : decode c.code pc = .ok (.dup2, 1)) (hv : v.category = 1) (hw : w.category = 1) (hn : pc + 1 = n) (g : Goes FF QV p e below s0 Q K N (T.setTop (mkF m n Ls (v :: w :: v :: w :: rest)))) : Goes FF QV p e below s0 Q K N (T.setTop (mkF m pc Ls (v :: w :: rest))) := by
  subst hn
  exact g.via fun t k => XT.dup2 X.here hx rfl hd rfl hv hw k
theorem o_pop (X : Stand p l e R s m args below meth c T locs cells slots) (hx : p.tables.exec = Jvm.exec) {v : Value} (hd : decode c.code pc = .ok (.pop, 1)) (hv : v.category = 1) (hn : pc + 1 = n) (g : Goes FF QV p e below s0 Q K N (T.setTop (mkF m n Ls rest))) : Goes FF QV p e below s0 Q K N (T.setTop (mkF m pc Ls (v :: rest))) := by
  subst hn
  exact g.via fun t k => XS.pop X.here hx rfl hd rfl hv k
theorem o_goto (X : Stand p l e R s m args below meth c T locs cells slots) (hx : p.tables.exec = Jvm.exec) {o : Int} (hd : decode c.code pc = .ok (.goto o, 3)) (ho : 0 ≤ (pc : Int) + o) (hn : ((pc : Int) + o).toNat = n) (g : Goes FF QV p e below s0 Q K N (T.setTop (mkF m n Ls st))) : Goes FF QV p e below s0 Q K N (T.setTop (mkF m pc Ls st)) := by
  exact g.via fun t k => XS.goto X.here hx rfl rfl hd ho hn k
theorem o_ifY (X : Stand p l e R s m args below meth c T locs cells slots) (hx : p.tables.exec = Jvm.exec) {cd : ClassFile.Cond} {x : Int32} {o : Int} (hd : decode c.code pc = .ok (.ifCond cd o, 3)) (hc : ifCond.holds cd x = true) (ho : 0 ≤ (pc : Int) + o) (hn : ((pc : Int) + o).toNat = n) (g : Goes FF QV p e below s0 Q K N (T.setTop (mkF m n Ls rest))) : Goes FF QV p e below s0 Q K N (T.setTop (mkF m pc Ls (.int x :: rest))) := by
  exact g.via fun t k => XS.ifYes X.here hx rfl rfl hd rfl hc ho hn k
theorem o_ifN (X : Stand p l e R s m args below meth c T locs cells slots) (hx : p.tables.exec = Jvm.exec) {cd : ClassFile.Cond} {x : Int32} {o : Int} (hd : decode c.code pc = .ok (.ifCond cd o, 3)) (hc : ifCond.holds cd x = false) (hn : pc + 3 = n) (g : Goes FF QV p e below s0 Q K N (T.setTop (mkF m n Ls rest))) : Goes FF QV p e below s0 Q K N (T.setTop (mkF m pc Ls (.int x :: rest))) := by
  subst hn
  exact g.via fun t k => XS.ifNo X.here hx rfl hd rfl hc k
theorem o_icmpY (X : Stand p l e R s m args below meth c T locs cells slots) (hx : p.tables.exec = Jvm.exec) {cd : ClassFile.Cond} {x y : Int32} {o : Int} (hd : decode c.code pc = .ok (.if_icmp cd o, 3)) (hc : if_icmp.holds cd x y = true) (ho : 0 ≤ (pc : Int) + o) (hn : ((pc : Int) + o).toNat = n) (g : Goes FF QV p e below s0 Q K N (T.setTop (mkF m n Ls rest))) : Goes FF QV p e below s0 Q K N (T.setTop (mkF m pc Ls (.int y :: .int x :: rest))) := by
  exact g.via fun t k => XS.icmpYes X.here hx rfl rfl hd rfl hc ho hn k
theorem o_icmpN (X : Stand p l e R s m args below meth c T locs cells slots) (hx : p.tables.exec = Jvm.exec) {cd : ClassFile.Cond} {x y : Int32} {o : Int} (hd : decode c.code pc = .ok (.if_icmp cd o, 3)) (hc : if_icmp.holds cd x y = false) (hn : pc + 3 = n) (g : Goes FF QV p e below s0 Q K N (T.setTop (mkF m n Ls rest))) : Goes FF QV p e below s0 Q K N (T.setTop (mkF m pc Ls (.int y :: .int x :: rest))) := by
  subst hn
  exact g.via fun t k => XS.icmpNo X.here hx rfl hd rfl hc k
theorem o_ifnullY (X : Stand p l e R s m args below meth c T locs cells slots) (hx : p.tables.exec = Jvm.exec) {o : Int} (hd : decode c.code pc = .ok (.ifnull o, 3)) (ho : 0 ≤ (pc : Int) + o) (hn : ((pc : Int) + o).toNat = n) (g : Goes FF QV p e below s0 Q K N (T.setTop (mkF m n Ls rest))) : Goes FF QV p e below s0 Q K N (T.setTop (mkF m pc Ls (.null :: rest))) := by
  exact g.via fun t k => XS.ifnullYes X.here hx rfl rfl hd rfl ho hn k
theorem o_ifnullN (X : Stand p l e R s m args below meth c T locs cells slots) (hx : p.tables.exec = Jvm.exec) {o : Int} {a : Addr} (hd : decode c.code pc = .ok (.ifnull o, 3)) (hn : pc + 3 = n) (g : Goes FF QV p e below s0 Q K N (T.setTop (mkF m n Ls rest))) : Goes FF QV p e below s0 Q K N (T.setTop (mkF m pc Ls (.ref a :: rest))) := by
  subst hn
  exact g.via fun t k => XS.ifnullNo X.here hx rfl hd rfl k
theorem o_ifnonnullY (X : Stand p l e R s m args below meth c T locs cells slots) (hx : p.tables.exec = Jvm.exec) {o : Int} {a : Addr} (hd : decode c.code pc = .ok (.ifnonnull o, 3)) (ho : 0 ≤ (pc : Int) + o) (hn : ((pc : Int) + o).toNat = n) (g : Goes FF QV p e below s0 Q K N (T.setTop (mkF m n Ls rest))) : Goes FF QV p e below s0 Q K N (T.setTop (mkF m pc Ls (.ref a :: rest))) := by
  exact g.via fun t k => XS.ifnonnullYes X.here hx rfl rfl hd rfl ho hn k
theorem o_ifnonnullN (X : Stand p l e R s m args below meth c T locs cells slots) (hx : p.tables.exec = Jvm.exec) {o : Int} (hd : decode c.code pc = .ok (.ifnonnull o, 3)) (hn : pc + 3 = n) (g : Goes FF QV p e below s0 Q K N (T.setTop (mkF m n Ls rest))) : Goes FF QV p e below s0 Q K N (T.setTop (mkF m pc Ls (.null :: rest))) := by
  subst hn
  exact g.via fun t k => XS.ifnonnullNo X.here hx rfl hd rfl k
theorem o_acmp (X : Stand p l e R s m args below meth c T locs cells slots) (hx : p.tables.exec = Jvm.exec) {cd : ACond} {x y : Value} {o : Int} {same : Bool} (hd : decode c.code pc = .ok (.if_acmp cd o, 3)) (h1 : x.isRef = true) (h2 : y.isRef = true) (hq : decide (x = y) = same) (ho : 0 ≤ (pc : Int) + o) (hn : n = if acV cd same = true then ((pc : Int) + o).toNat else pc + 3) (g : Goes FF QV p e below s0 Q K N (T.setTop (mkF m n Ls rest))) : Goes FF QV p e below s0 Q K N (T.setTop (mkF m pc Ls (y :: x :: rest))) := by
  exact g.via fun t k => Jvm.RoadKit.acmp X hx (g := mkF m pc Ls _) rfl h1 h2 rfl hd rfl hq ho hn k

/-- a body that may intern: what it promises of the tables at its end: QV -/
def DoesW (l : Launch) (Z : State) (y : MethodName) (bytes : ByteArray) (maxL : Nat) (ret : Option FieldType) (ws : List Jvm.Cond) (rm : Room) (as : Array Value) (h : Heap) (PV : Vm → Prop) (Q : Option Value → Heap → List Loc → Prop) (QV : Vm → Prop) : Prop :=
  MetFree l y (head1 (Jvm.Cond.code y bytes maxL ret :: ws) rm) (fun a U => a = as ∧ Z.Warmed39 U.vm ∧ U.heap = h ∧ PV U.vm) (fun _ _ _ _ _ => True) (fun _ U o U' => ∃ v L, o = .returned v ∧ Q v U'.heap L ∧ QV U'.vm ∧ ReturnedEndW U o U' L rm.cells rm.slots)
theorem o_setVm (s : State) : s.setVm s.vm = s := rfl
theorem DoesW.of {y : MethodName} {bytes : ByteArray} {maxL : Nat} {ret : Option FieldType} {ws : List Jvm.Cond} {rm : Room} {as : Array Value} {PV QV : Vm → Prop} (hpl : plainFor y = true)
    (body : ∀ (p : Program) (e : Env) (s : State) (m : MethodId) (below : List Frame) (meth : Method) (c : Code) (T : State), p.tables.exec = Jvm.exec → c.code = bytes → c.maxLocals = maxL → s.vm.findClass y.cls = some m.cls → meth.name = y.name → meth.sig.returnType = ret → meth.locks = false → Z.Warmed39 s.vm → Stand p l e rm (s.setVm s.vm) m as below meth c T [] 0 0 → T.heap = h → s.heap = h → PV s.vm → s.Since s.vm 0 → Goes ReturnedEndW QV p e below s Q rm.cells rm.slots (T.setTop (entryFrame m as maxL))) : DoesW l Z y bytes maxL ret ws rm as h PV Q QV := by
  refine MetFree.of_bodySF hpl hisR ?_
  intro p e s m args below meth c s₁ Bd hml0 hP hK
  obtain ⟨rfl, hZ, hh, hPV⟩ := hP
  have X0 : Stand p l e rm s m args below meth c s₁ [] 0 0 := Stand.of_body Bd
  obtain ⟨s2, o, h1, h2, h3, v, L, e1, q, qv, f⟩ := body p e s m below meth c s₁ Bd.exec Bd.bytes hml0 (findClass_of_methodNamed Bd.named) (name_of_methodNamed Bd.named Bd.method).1 Bd.returns Bd.notSynchronized hZ X0 (by rw [← hh, Bd.state]; rfl) hh hPV ((State.WarmedH.refl s).since 0)
  exact ⟨s2, o, h1, h2, h3, v, L, e1, q, qv, f⟩
/-! the heap -/
theorem o_getfield (X : Stand p l e R s m args below meth c T locs cells slots) (hx : p.tables.exec = Jvm.exec) (hZ : Z.Warmed39 s.vm) {own R0 O nm d host : String} {index : Nat} (hown : s.vm.findClass own = some m.cls) (w : (Jvm.Cond.fieldLink own index R0 nm d).before a0 Z = true ∨ (Jvm.Cond.fieldLinkNest own index R0 nm d host).before a0 Z = true) (via : Via Z R0 O nm d) (eT : T.heap = h) {a : Addr} {v : Value} (F : Fld Z h a O nm d v)
    (hd : decode c.code pc = .ok (.getfield index, 3)) (hn : pc + 3 = n) (k : ∀ T', Stand p l e R s m args below meth c T' locs cells slots → T'.heap = h → Goes FF QV p e below s0 Q K N (T'.setTop (mkF m n Ls (v :: rest)))) : Goes FF QV p e below s0 Q K N (T.setTop (mkF m pc Ls (.ref a :: rest))) := by
  subst hn
  obtain ⟨T', X', e', st'⟩ := getF X hx hZ hown w via eT F (g := mkF m pc Ls (.ref a :: rest)) rfl rfl hd
  exact (k T' X' e').via st'
theorem o_putfield (X : Stand p l e R s m args below meth c T locs cells slots) (hx : p.tables.exec = Jvm.exec) (hZ : Z.Warmed39 s.vm) {own R0 O nm d host C : String} {index kk : Nat} {ty : FieldType} (hown : s.vm.findClass own = some m.cls) (w : (Jvm.Cond.fieldLink own index R0 nm d).before a0 Z = true ∨ (Jvm.Cond.fieldLinkNest own index R0 nm d host).before a0 Z = true) (via : Via Z R0 O nm d) (eT : T.heap = h) {a : Addr} {v old : Value} (F : Fld Z h a O nm d old) (E : Exa Z h a C)
    (L : (Jvm.Cond.lays C O nm d).before a0 Z = true ∨ ((Jvm.Cond.laysFinal C O nm d).before a0 Z = true ∧ own = O ∧ meth.name = "<init>")) (wi : (Jvm.Cond.instantiable C kk).before a0 Z = true) (hty : parseFieldDescriptor d = some ty) (hnn : narrow ty v = v) (hf : fits ty v = true) (hd : decode c.code pc = .ok (.putfield index, 3)) (hn : pc + 3 = n)
    (k : ∀ T' h', Stand p l e R s m args below meth c T' (locs ++ [⟨a, Jvm.RoadKit.slotOf Z O nm d⟩]) cells slots → T'.heap = h' → Wr h h' a (Jvm.RoadKit.slotOf Z O nm d) v → Fld Z h' a O nm d v → Exa Z h' a C → Goes FF QV p e below s0 Q K N (T'.setTop (mkF m n Ls rest))) : Goes FF QV p e below s0 Q K N (T.setTop (mkF m pc Ls (v :: .ref a :: rest))) := by
  subst hn
  obtain ⟨T', h', X', e', W, st'⟩ := putF X hx hZ hown w via eT F E L wi hty hnn hf (g := mkF m pc Ls (v :: .ref a :: rest)) rfl rfl hd
  exact (k T' h' X' e' W (F.same W) (E.wr W)).via st'
theorem o_getstatic (X : Stand p l e R s m args below meth c T locs cells slots) (hx : p.tables.exec = Jvm.exec) (hZ : Z.Warmed39 s.vm) {own R0 O nm d host : String} {index : Nat} (hown : s.vm.findClass own = some m.cls) (w : (Jvm.Cond.fieldLink own index R0 nm d).before a0 Z = true ∨ (Jvm.Cond.fieldLinkNest own index R0 nm d host).before a0 Z = true) (via : Via Z R0 O nm d) (eT : T.heap = h) {v : Value} (F : Sta Z h O nm d v)
    (hd : decode c.code pc = .ok (.getstatic index, 3)) (hn : pc + 3 = n) (k : ∀ T', Stand p l e R s m args below meth c T' locs cells slots → T'.heap = h → Goes FF QV p e below s0 Q K N (T'.setTop (mkF m n Ls (v :: st)))) : Goes FF QV p e below s0 Q K N (T.setTop (mkF m pc Ls st)) := by
  subst hn
  obtain ⟨T', X', e', st'⟩ := getS2 X hx hZ hown w via eT F (g := mkF m pc Ls st) rfl hd
  exact (k T' X' e').via st'
theorem o_new (X : Stand p l e R s m args below meth c T locs cells slots) (hx : p.tables.exec = Jvm.exec) (hZ : Z.Warmed39 s.vm) {own C : String} {index kk : Nat} (hown : s.vm.findClass own = some m.cls) (w : (Jvm.Cond.classLink own index C).before a0 Z = true) (wi : (Jvm.Cond.instantiable C kk).before a0 Z = true) (wz : (Jvm.Cond.initialized C).before a0 Z = true) (eT : T.heap = h)
    (hd : decode c.code pc = .ok (.new index, 3)) (hc : cells + 1 ≤ R.cells) (hs : slots + kk ≤ R.slots) (hn : pc + 3 = n)
    (k : ∀ T' h' a, Stand p l e R s m args below meth c T' locs (cells + 1) (slots + kk) → T'.heap = h' → a = h.size → Ext h h' → Exa Z h' a C → (∀ {O nm d : String} {ty : FieldType}, Laid Z a0 C O nm d → parseFieldDescriptor d = some ty → Fld Z h' a O nm d (defaultValue ty)) → Goes FF QV p e below s0 Q K N (T'.setTop (mkF m n Ls (.ref a :: st)))) : Goes FF QV p e below s0 Q K N (T.setTop (mkF m pc Ls st)) := by
  subst hn
  obtain ⟨T', h', X', e', E, A, D, -, st'⟩ := newO X hx hZ hown w wi wz eT (g := mkF m pc Ls st) rfl hd hc hs
  exact (k T' h' _ X' e' rfl E A D).via st'
theorem o_newarray (X : Stand p l e R s m args below meth c T locs cells slots) (hx : p.tables.exec = Jvm.exec) (hZ : Z.Warmed39 s.vm) {aty : ArrayType} (w : (Jvm.Cond.arrayClass (newarray.typeOf aty)).before a0 Z = true) (eT : T.heap = h) {z : Int32} (hd : decode c.code pc = .ok (.newarray aty, 2)) (hz : ¬ z < 0) (cap : Nat) (hcap : z.toNatClampNeg ≤ cap) (hb : cap * 8 ≤ 536870912) (hc : cells + 1 ≤ R.cells) (hs : slots + cap ≤ R.slots) (hn : pc + 2 = n)
    (k : ∀ T' h' a cA, Stand p l e R s m args below meth c T' locs (cells + 1) (slots + cap) → T'.heap = h' → a = h.size → Ext h h' → Arv Z h' a cA (newarray.typeOf aty) z [] (defaultValue (newarray.typeOf aty)) → Goes FF QV p e below s0 Q K N (T'.setTop (mkF m n Ls (.ref a :: rest)))) : Goes FF QV p e below s0 Q K N (T.setTop (mkF m pc Ls (.int z :: rest))) := by
  subst hn
  obtain ⟨T', h', cA, X', e', E, A, st'⟩ := newP X hx hZ w eT (g := mkF m pc Ls (.int z :: rest)) rfl hd rfl hz hcap hb hc hs
  exact (k T' h' _ cA X' e' rfl E (Arv.new A hz)).via st'
theorem o_arraylength (X : Stand p l e R s m args below meth c T locs cells slots) (hx : p.tables.exec = Jvm.exec) (hZ : Z.Warmed39 s.vm) (eT : T.heap = h) {a : Addr} {k : ClassId} {ty : FieldType} {z : Int32} {vs : List Value} {dv : Value} (V : Arv Z h a k ty z vs dv) (hd : decode c.code pc = .ok (.arraylength, 1)) (hn : pc + 1 = n) (g : Goes FF QV p e below s0 Q K N (T.setTop (mkF m n Ls (.int z :: rest)))) : Goes FF QV p e below s0 Q K N (T.setTop (mkF m pc Ls (.ref a :: rest))) := by
  subst hn
  obtain ⟨cl, A, -, S, M, -, -⟩ := V
  refine g.via fun t k => X.arraylength hx (by rw [eT]; exact A.1) (State.isArrayOf_alike hZ.alike A.2.1) (g := mkF m pc Ls (.ref a :: rest)) rfl rfl hd t ?_
  rw [len_of S M]; exact k
theorem o_iaload (X : Stand p l e R s m args below meth c T locs cells slots) (hx : p.tables.exec = Jvm.exec) (hZ : Z.Warmed39 s.vm) (eT : T.heap = h) {a : Addr} {k : ClassId} {z j : Int32} {vs : List Value} {dv v : Value} (V : Arv Z h a k .int z vs dv) (i : Nat) (hi : j.toNatClampNeg = i) (hj : ¬ j < 0 ∧ j < z) (hv : vs.getD i dv = v) (hd : decode c.code pc = .ok (.iaload, 1)) (hn : pc + 1 = n) (g : Goes FF QV p e below s0 Q K N (T.setTop (mkF m n Ls (v :: rest)))) : Goes FF QV p e below s0 Q K N (T.setTop (mkF m pc Ls (.int j :: .ref a :: rest))) := by
  subst hn hi
  obtain ⟨cl, A, -, S, M, H, -⟩ := V
  exact g.via fun t k => X.iaload hx (by rw [eT]; exact A.1) (State.isArrayOf_alike hZ.alike A.2.1) A.2.2 (inb_of S hj) (Has.at H (inb_of S hj) hv) (g := mkF m pc Ls (.int j :: .ref a :: rest)) rfl rfl hd t k
theorem o_laload (X : Stand p l e R s m args below meth c T locs cells slots) (hx : p.tables.exec = Jvm.exec) (hZ : Z.Warmed39 s.vm) (eT : T.heap = h) {a : Addr} {k : ClassId} {z j : Int32} {vs : List Value} {dv v : Value} (V : Arv Z h a k .long z vs dv) (i : Nat) (hi : j.toNatClampNeg = i) (hj : ¬ j < 0 ∧ j < z) (hv : vs.getD i dv = v) (hd : decode c.code pc = .ok (.laload, 1)) (hn : pc + 1 = n) (g : Goes FF QV p e below s0 Q K N (T.setTop (mkF m n Ls (v :: rest)))) : Goes FF QV p e below s0 Q K N (T.setTop (mkF m pc Ls (.int j :: .ref a :: rest))) := by
  subst hn hi
  obtain ⟨cl, A, -, S, M, H, -⟩ := V
  exact g.via fun t k => X.laload hx (by rw [eT]; exact A.1) (State.isArrayOf_alike hZ.alike A.2.1) A.2.2 (inb_of S hj) (Has.at H (inb_of S hj) hv) (g := mkF m pc Ls (.int j :: .ref a :: rest)) rfl rfl hd t k
theorem o_baload (X : Stand p l e R s m args below meth c T locs cells slots) (hx : p.tables.exec = Jvm.exec) (hZ : Z.Warmed39 s.vm) (eT : T.heap = h) {a : Addr} {k : ClassId} {z j : Int32} {vs : List Value} {dv v : Value} (V : Arv Z h a k .byte z vs dv) (i : Nat) (hi : j.toNatClampNeg = i) (hj : ¬ j < 0 ∧ j < z) (hv : vs.getD i dv = v) (hd : decode c.code pc = .ok (.baload, 1)) (hn : pc + 1 = n) (g : Goes FF QV p e below s0 Q K N (T.setTop (mkF m n Ls (v :: rest)))) : Goes FF QV p e below s0 Q K N (T.setTop (mkF m pc Ls (.int j :: .ref a :: rest))) := by
  subst hn hi
  obtain ⟨cl, A, -, S, M, H, -⟩ := V
  exact g.via fun t k => X.baloadBytes hx (by rw [eT]; exact A.1) (State.isArrayOf_alike hZ.alike A.2.1) A.2.2 (inb_of S hj) (Has.at H (inb_of S hj) hv) (g := mkF m pc Ls (.int j :: .ref a :: rest)) rfl rfl hd t k
theorem o_baloadZ (X : Stand p l e R s m args below meth c T locs cells slots) (hx : p.tables.exec = Jvm.exec) (hZ : Z.Warmed39 s.vm) (eT : T.heap = h) {a : Addr} {k : ClassId} {z j : Int32} {vs : List Value} {dv v : Value} (V : Arv Z h a k .boolean z vs dv) (i : Nat) (hi : j.toNatClampNeg = i) (hj : ¬ j < 0 ∧ j < z) (hv : vs.getD i dv = v) (hd : decode c.code pc = .ok (.baload, 1)) (hn : pc + 1 = n) (g : Goes FF QV p e below s0 Q K N (T.setTop (mkF m n Ls (v :: rest)))) : Goes FF QV p e below s0 Q K N (T.setTop (mkF m pc Ls (.int j :: .ref a :: rest))) := by
  subst hn hi
  obtain ⟨cl, A, -, S, M, H, -⟩ := V
  exact g.via fun t k => X.baloadBooleans hx (by rw [eT]; exact A.1) (State.isArrayOf_alike hZ.alike A.2.1) A.2.2 (inb_of S hj) (Has.at H (inb_of S hj) hv) (g := mkF m pc Ls (.int j :: .ref a :: rest)) rfl rfl hd t k
theorem o_aaload (X : Stand p l e R s m args below meth c T locs cells slots) (hx : p.tables.exec = Jvm.exec) (hZ : Z.Warmed39 s.vm) (eT : T.heap = h) {a : Addr} {k : ClassId} {ty : FieldType} {z j : Int32} {vs : List Value} {dv v : Value} (V : Arv Z h a k ty z vs dv) (hty : ty.isReference = true) (i : Nat) (hi : j.toNatClampNeg = i) (hj : ¬ j < 0 ∧ j < z) (hv : vs.getD i dv = v) (hd : decode c.code pc = .ok (.aaload, 1)) (hn : pc + 1 = n) (g : Goes FF QV p e below s0 Q K N (T.setTop (mkF m n Ls (v :: rest)))) : Goes FF QV p e below s0 Q K N (T.setTop (mkF m pc Ls (.int j :: .ref a :: rest))) := by
  subst hn hi
  obtain ⟨cl, A, -, S, M, H, -⟩ := V
  exact g.via fun t k => X.aaload hx (by rw [eT]; exact A.1) (State.isArrayOf_alike hZ.alike A.2.1) hty A.2.2 (inb_of S hj) (Has.at H (inb_of S hj) hv) (g := mkF m pc Ls (.int j :: .ref a :: rest)) rfl rfl hd t k
theorem o_iastore (X : Stand p l e R s m args below meth c T locs cells slots) (hx : p.tables.exec = Jvm.exec) (hZ : Z.Warmed39 s.vm) (eT : T.heap = h) {a : Addr} {k : ClassId} {z j : Int32} {x : Int32} {vs vs' : List Value} {dv w : Value} (V : Arv Z h a k .int z vs dv) (i : Nat) (hi : j.toNatClampNeg = i) (hj : ¬ j < 0 ∧ j < z) (hlen : i < vs.length) (hw : (.int x) = w) (hvs : vs.set i w = vs') (hd : decode c.code pc = .ok (.iastore, 1)) (hn : pc + 1 = n)
    (g : ∀ T' h', Stand p l e R s m args below meth c T' (locs ++ [⟨a, j.toNatClampNeg⟩]) cells slots → T'.heap = h' → Wr h h' a j.toNatClampNeg w → Arv Z h' a k .int z vs' dv → Goes FF QV p e below s0 Q K N (T'.setTop (mkF m n Ls rest))) : Goes FF QV p e below s0 Q K N (T.setTop (mkF m pc Ls (.int x :: .int j :: .ref a :: rest))) := by
  subst hn hvs hw
  obtain ⟨cl, A, q1, S, M, H, G⟩ := V
  obtain ⟨T', h', X', e', W, st'⟩ := stI X hx hZ eT A (j := j) (inb_of S hj) (g := mkF m pc Ls (.int x :: .int j :: .ref a :: rest)) rfl rfl hd
  exact (g T' h' X' e' W (Arv.set A q1 S M H G rfl W i hi hlen)).via st'
theorem o_lastore (X : Stand p l e R s m args below meth c T locs cells slots) (hx : p.tables.exec = Jvm.exec) (hZ : Z.Warmed39 s.vm) (eT : T.heap = h) {a : Addr} {k : ClassId} {z j : Int32} {x : Int64} {vs vs' : List Value} {dv w : Value} (V : Arv Z h a k .long z vs dv) (i : Nat) (hi : j.toNatClampNeg = i) (hj : ¬ j < 0 ∧ j < z) (hlen : i < vs.length) (hw : (.long x) = w) (hvs : vs.set i w = vs') (hd : decode c.code pc = .ok (.lastore, 1)) (hn : pc + 1 = n)
    (g : ∀ T' h', Stand p l e R s m args below meth c T' (locs ++ [⟨a, j.toNatClampNeg⟩]) cells slots → T'.heap = h' → Wr h h' a j.toNatClampNeg w → Arv Z h' a k .long z vs' dv → Goes FF QV p e below s0 Q K N (T'.setTop (mkF m n Ls rest))) : Goes FF QV p e below s0 Q K N (T.setTop (mkF m pc Ls (.long x :: .int j :: .ref a :: rest))) := by
  subst hn hvs hw
  obtain ⟨cl, A, q1, S, M, H, G⟩ := V
  obtain ⟨T', h', X', e', W, st'⟩ := stJ X hx hZ eT A (j := j) (inb_of S hj) (g := mkF m pc Ls (.long x :: .int j :: .ref a :: rest)) rfl rfl hd
  exact (g T' h' X' e' W (Arv.set A q1 S M H G rfl W i hi hlen)).via st'
theorem o_bastore (X : Stand p l e R s m args below meth c T locs cells slots) (hx : p.tables.exec = Jvm.exec) (hZ : Z.Warmed39 s.vm) (eT : T.heap = h) {a : Addr} {k : ClassId} {z j : Int32} {x : Int32} {vs vs' : List Value} {dv w : Value} (V : Arv Z h a k .byte z vs dv) (i : Nat) (hi : j.toNatClampNeg = i) (hj : ¬ j < 0 ∧ j < z) (hlen : i < vs.length) (hw : (.int (nar .byte x)) = w) (hvs : vs.set i w = vs') (hd : decode c.code pc = .ok (.bastore, 1)) (hn : pc + 1 = n)
    (g : ∀ T' h', Stand p l e R s m args below meth c T' (locs ++ [⟨a, j.toNatClampNeg⟩]) cells slots → T'.heap = h' → Wr h h' a j.toNatClampNeg w → Arv Z h' a k .byte z vs' dv → Goes FF QV p e below s0 Q K N (T'.setTop (mkF m n Ls rest))) : Goes FF QV p e below s0 Q K N (T.setTop (mkF m pc Ls (.int x :: .int j :: .ref a :: rest))) := by
  subst hn hvs hw
  obtain ⟨cl, A, q1, S, M, H, G⟩ := V
  obtain ⟨T', h', X', e', W, st'⟩ := stB X hx hZ eT A (j := j) (inb_of S hj) (g := mkF m pc Ls (.int x :: .int j :: .ref a :: rest)) rfl rfl hd
  exact (g T' h' X' e' W (Arv.set A q1 S M H G (fits_nar_byte x) W i hi hlen)).via st'
theorem o_bastoreZ (X : Stand p l e R s m args below meth c T locs cells slots) (hx : p.tables.exec = Jvm.exec) (hZ : Z.Warmed39 s.vm) (eT : T.heap = h) {a : Addr} {k : ClassId} {z j : Int32} {x : Int32} {vs vs' : List Value} {dv w : Value} (V : Arv Z h a k .boolean z vs dv) (i : Nat) (hi : j.toNatClampNeg = i) (hj : ¬ j < 0 ∧ j < z) (hlen : i < vs.length) (hw : (.int (nar .boolean x)) = w) (hvs : vs.set i w = vs') (hd : decode c.code pc = .ok (.bastore, 1)) (hn : pc + 1 = n)
    (g : ∀ T' h', Stand p l e R s m args below meth c T' (locs ++ [⟨a, j.toNatClampNeg⟩]) cells slots → T'.heap = h' → Wr h h' a j.toNatClampNeg w → Arv Z h' a k .boolean z vs' dv → Goes FF QV p e below s0 Q K N (T'.setTop (mkF m n Ls rest))) : Goes FF QV p e below s0 Q K N (T.setTop (mkF m pc Ls (.int x :: .int j :: .ref a :: rest))) := by
  subst hn hvs hw
  obtain ⟨cl, A, q1, S, M, H, G⟩ := V
  obtain ⟨T', h', X', e', W, st'⟩ := stZ X hx hZ eT A (j := j) (inb_of S hj) (g := mkF m pc Ls (.int x :: .int j :: .ref a :: rest)) rfl rfl hd
  exact (g T' h' X' e' W (Arv.set A q1 S M H G (fits_nar_bool x) W i hi hlen)).via st'

/-! calls -/
theorem o_initO (X : Stand p l e R s m args below meth c T locs cells slots) (hx : p.tables.exec = Jvm.exec) (hZ : Z.Warmed39 s.vm) {own : String} {idx : Nat} (hown : s.vm.findClass own = some m.cls) (w1 : (Jvm.Cond.methodLink own idx Lib.objectInit).before a0 Z = true) (w2 : (Jvm.Cond.instanceMethod Lib.objectInit).before a0 Z = true) (w3 : (Jvm.Cond.code Lib.objectInit ⟨#[0xb1]⟩ 1 none).before a0 Z = true) (eT : T.heap = h) (hsize : Ls.size = c.maxLocals) {a : Addr} (hd : decode c.code pc = .ok (.invokespecial idx, 3)) (hf : 1 ≤ R.frames) (W : Nat) (hW : (rest.map fun v => v.category).sum ≤ W) (hl : W + 12 ≤ R.locals) (hn : pc + 3 = n)
    (k : ∀ T', Stand p l e R s m args below meth c T' locs cells slots → T'.heap = h → Goes FF QV p e below s0 Q K N (T'.setTop (mkF m n Ls rest))) : Goes FF QV p e below s0 Q K N (T.setTop (mkF m pc Ls (.ref a :: rest))) := by
  subst hn
  obtain ⟨T', X', e', st'⟩ := initO X hx hZ hown w1 w2 w3 eT (g := mkF m pc Ls (.ref a :: rest)) rfl hsize rfl hd hf (W := W) (by show 2 * 0 + _ ≤ _; omega) hl
  exact (k T' X' e').via st'
theorem o_acopy (X : Stand p l e R s m args below meth c T locs cells slots) (hx : p.tables.exec = Jvm.exec) (hZ : Z.Warmed39 s.vm) {own : String} {index : Nat} (hown : s.vm.findClass own = some m.cls) (w1 : (Jvm.Cond.methodLink own index Jvm.Stand.acN).before a0 Z = true) (w2 : (Jvm.Cond.native Jvm.Stand.acN).before a0 Z = true) (w3 : (Jvm.Cond.static Jvm.Stand.acN).before a0 Z = true) (w4 : (Jvm.Cond.initialized "java/lang/System").before a0 Z = true) (eT : T.heap = h)
    {a b : Addr} {k k' : ClassId} {ty ty' : FieldType} {z z' sp dp nn : Int32} {vs vd us : List Value} {dv dd : Value} (A : Arv Z h a k ty z vs dv) (B : Arv Z h b k' ty' z' vd dd) (hty : (ty = ty' ∧ refKind ty = false) ∨ (refKind ty = true ∧ refKind ty' = true ∧ StoL Z h b us))
    (H : ¬ sp < 0 ∧ ¬ dp < 0 ∧ ¬ nn < 0 ∧ sp.toNatClampNeg + nn.toNatClampNeg ≤ z.toNatClampNeg ∧ dp.toNatClampNeg + nn.toNatClampNeg ≤ z'.toNatClampNeg ∧ us = ((List.range nn.toNatClampNeg).map fun i => vs.getD (sp.toNatClampNeg + i) dv) ∧ dp.toNatClampNeg + nn.toNatClampNeg ≤ vd.length) {n0 : Nat} (NF : Fr n0 locs) (ge : n0 ≤ b)
    (hsize : Ls.size = c.maxLocals) (hd : decode c.code pc = .ok (.invokestatic index, 3)) (hf : 1 ≤ R.frames) (W : Nat) (hW : (rest.map fun v => v.category).sum ≤ W) (hl : W + 18 ≤ R.locals) (hn : pc + 3 = n)
    (g : ∀ T' h' L, Stand p l e R s m args below meth c T' L cells slots → T'.heap = h' → Fr n0 L → Keep h h' [b] → Arv Z h' b k' ty' z' (vd.take dp.toNatClampNeg ++ us ++ vd.drop (dp.toNatClampNeg + nn.toNatClampNeg)) dd → Goes FF QV p e below s0 Q K N (T'.setTop (mkF m n Ls rest))) : Goes FF QV p e below s0 Q K N (T.setTop (mkF m pc Ls (.int nn :: .int dp :: .ref b :: .int sp :: .ref a :: rest))) := by
  subst hn
  obtain ⟨h1, h2, h3, h4, h5, h6, h7⟩ := H
  obtain ⟨T', h', L, X', e', N', K', V', st'⟩ := cpA X hx hZ hown w1 w2 w3 w4 eT A B hty h1 h2 h3 h4 h5 h6 h7 NF ge (g := mkF m pc Ls (.int nn :: .int dp :: .ref b :: .int sp :: .ref a :: rest)) rfl hsize rfl hd hf (W := W) (by show 2 * 0 + _ ≤ _; omega) (show W + (7 + 11) ≤ R.locals from hl)
  exact (g T' h' L X' e' N' K' V').via st'
theorem o_callS (X : Stand p l e R s m args below meth c T locs cells slots) (hx : p.tables.exec = Jvm.exec) (hZ : Z.Warmed39 s.vm) {own : String} {index : Nat} {y : MethodName} {bytes : ByteArray} {maxL : Nat} {ret : Option FieldType} {rm : Room} (hown : s.vm.findClass own = some m.cls) (w1 : (Jvm.Cond.methodLink own index y).before a0 Z = true) (w2 : (Jvm.Cond.static y).before a0 Z = true) (w3 : (Jvm.Cond.initialized y.cls).before a0 Z = true) (w4 : (Jvm.Cond.code y bytes maxL ret).before a0 Z = true) (hy : y.cls ≠ "java/lang/invoke/MethodHandle" ∧ y.cls ≠ "java/lang/invoke/VarHandle") (eT : T.heap = h)
    {argsL rest : List Value} {Q' : Option Value → Heap → List Loc → Prop} (hM : Does l Z y bytes maxL ret [] rm argsL.toArray h Q') (W : Nat) (hf : rm.frames + 1 ≤ R.frames) (hl : W + (maxL + 11) + rm.locals ≤ R.locals) (hc : cells + rm.cells ≤ R.cells) (hs : slots + rm.slots ≤ R.slots) (hsize : Ls.size = c.maxLocals) (hlen : ∀ sig, parseMethodDescriptor y.desc = some sig → argsL.length = sig.parameters.length) (hst : st = argsL.reverse ++ rest) (hW : (rest.map fun v => v.category).sum ≤ W) (hd : decode c.code pc = .ok (.invokestatic index, 3)) (hn : pc + 3 = n)
    (k : ∀ v T' L', Stand p l e R s m args below meth c T' (locs ++ L') (cells + rm.cells) (slots + rm.slots) → Q' v T'.heap L' → Goes FF QV p e below s0 Q K N (T'.setTop (mkF m n Ls (v.toList ++ rest)))) : Goes FF QV p e below s0 Q K N (T.setTop (mkF m pc Ls st)) := by
  subst hn
  obtain ⟨v, _, ⟨T', L, kk, nn⟩, -, X', ⟨Lc, hQ, l', y', z'⟩, st'⟩ := Jvm.LawKit.callS X hx (y := y) hown (mvT hZ w1) (mvT hZ w2) (mvT hZ w3) (mvT hZ w4) hy (backOf (W := W) hM hZ w4 w3 hf hl) (g := mkF m pc Ls st) rfl hsize (argsL := argsL) (rest := rest) hlen hst (by show 2 * 0 + _ ≤ _; omega) hd (fun _ _ => ⟨rfl, eT, hc, hs⟩)
  dsimp only [Pt.U, Pt.locs, Pt.cells, Pt.slots] at X' l' y' z' st' hQ
  subst l' y' z'
  exact (k v T' Lc X' hQ).via st'
theorem o_callN (X : Stand p l e R s m args below meth c T locs cells slots) (hx : p.tables.exec = Jvm.exec) (hZ : Z.Warmed39 s.vm) {own : String} {index : Nat} {y : MethodName} {bytes : ByteArray} {maxL : Nat} {rm : Room} (hy1 : y.name = "<init>") (hown : s.vm.findClass own = some m.cls) (w1 : (Jvm.Cond.methodLink own index y).before a0 Z = true) (w2 : (Jvm.Cond.instanceMethod y).before a0 Z = true) (w3 : (Jvm.Cond.initialized y.cls).before a0 Z = true) (w4 : (Jvm.Cond.code y bytes maxL none).before a0 Z = true) (hy : y.cls ≠ "java/lang/invoke/MethodHandle" ∧ y.cls ≠ "java/lang/invoke/VarHandle") (eT : T.heap = h)
    {a : Addr} {argsL rest : List Value} {Q' : Option Value → Heap → List Loc → Prop} (hM : Does l Z y bytes maxL none [] rm (.ref a :: argsL).toArray h Q') (W : Nat) (hf : rm.frames + 1 ≤ R.frames) (hl : W + (maxL + 11) + rm.locals ≤ R.locals) (hc : cells + rm.cells ≤ R.cells) (hs : slots + rm.slots ≤ R.slots) (hsize : Ls.size = c.maxLocals) (hlen : ∀ sig, parseMethodDescriptor y.desc = some sig → argsL.length = sig.parameters.length) (hst : st = argsL.reverse ++ .ref a :: rest) (hW : (rest.map fun v => v.category).sum ≤ W) (hd : decode c.code pc = .ok (.invokespecial index, 3)) (hn : pc + 3 = n)
    (k : ∀ v T' L', Stand p l e R s m args below meth c T' (locs ++ L') (cells + rm.cells) (slots + rm.slots) → Q' v T'.heap L' → Goes FF QV p e below s0 Q K N (T'.setTop (mkF m n Ls (v.toList ++ rest)))) : Goes FF QV p e below s0 Q K N (T.setTop (mkF m pc Ls st)) := by
  subst hn
  obtain ⟨v, _, ⟨T', L, kk, nn⟩, -, X', ⟨Lc, hQ, l', y', z'⟩, st'⟩ := X.specialBack hx (y := y) hy1 hown (mvT hZ w1) (mvT hZ w2) (mvT hZ w4) hy (backOf (W := W) hM hZ w4 w3 hf hl) (g := mkF m pc Ls st) rfl hsize (Steps.refl _) (a := a) (argsL := argsL) (rest := rest) hlen hst (by show 2 * 0 + _ ≤ _; omega) hd (fun _ _ => ⟨rfl, eT, hc, hs⟩)
  dsimp only [Pt.U, Pt.locs, Pt.cells, Pt.slots] at X' l' y' z' st' hQ
  subst l' y' z'
  exact (k v T' Lc X' hQ).via fun t q => st'.trans q
theorem o_callV (X : Stand p l e R s m args below meth c T locs cells slots) (hx : p.tables.exec = Jvm.exec) (hZ : Z.Warmed39 s.vm) {own C : String} {index : Nat} {y : MethodName} {bytes : ByteArray} {maxL : Nat} {ret : Option FieldType} {rm : Room} (hown : s.vm.findClass own = some m.cls) (w1 : (Jvm.Cond.methodLink own index y).before a0 Z = true) (w2 : (Jvm.Cond.declares y).before a0 Z = true) (w5 : (Jvm.Cond.selects C y y).before a0 Z = true) (w6 : (Jvm.Cond.instanceMethod y).before a0 Z = true) (w3 : (Jvm.Cond.initialized y.cls).before a0 Z = true) (w4 : (Jvm.Cond.code y bytes maxL ret).before a0 Z = true) (hy : y.cls ≠ "java/lang/invoke/MethodHandle" ∧ y.cls ≠ "java/lang/invoke/VarHandle") (eT : T.heap = h)
    {a : Addr} (E : Exa Z h a C) {argsL rest : List Value} {Q' : Option Value → Heap → List Loc → Prop} (hM : Does l Z y bytes maxL ret [] rm (.ref a :: argsL).toArray h Q') (W : Nat) (hf : rm.frames + 1 ≤ R.frames) (hl : W + (maxL + 11) + rm.locals ≤ R.locals) (hc : cells + rm.cells ≤ R.cells) (hs : slots + rm.slots ≤ R.slots) (hsize : Ls.size = c.maxLocals) (hlen : ∀ sig, parseMethodDescriptor y.desc = some sig → argsL.length = sig.parameters.length) (hst : st = argsL.reverse ++ .ref a :: rest) (hW : (rest.map fun v => v.category).sum ≤ W) (hd : decode c.code pc = .ok (.invokevirtual index, 3)) (hn : pc + 3 = n)
    (k : ∀ v T' L', Stand p l e R s m args below meth c T' (locs ++ L') (cells + rm.cells) (slots + rm.slots) → Q' v T'.heap L' → Goes FF QV p e below s0 Q K N (T'.setTop (mkF m n Ls (v.toList ++ rest)))) : Goes FF QV p e below s0 Q K N (T.setTop (mkF m pc Ls st)) := by
  subst hn
  obtain ⟨cq, kq, qa, qb, qc⟩ := isOf hZ eT E
  obtain ⟨v, _, ⟨T', L, kk, nn⟩, -, X', ⟨Lc, hQ, l', y', z'⟩, st'⟩ := X.virtualBack hx (y := y) (z := y) hown (mvT hZ w1) (mvT hZ w2) (notFace_of_selects (args := #[]) (mvT hZ w5)) (mvT hZ w5) (mvT hZ w6) hy (backOf (W := W) hM hZ w4 w3 hf hl) qa qc (g := mkF m pc Ls st) rfl hsize (Steps.refl _) (argsL := argsL) (rest := rest) hlen hst (by show 2 * 0 + _ ≤ _; omega) hd (fun _ _ => ⟨rfl, eT, hc, hs⟩)
  dsimp only [Pt.U, Pt.locs, Pt.cells, Pt.slots] at X' l' y' z' st' hQ
  subst l' y' z'
  exact (k v T' Lc X' hQ).via fun t q => st'.trans q
/-- a private method is the one that is selected -/
theorem o_selpriv {y : MethodName} {kk : Nat} (hy : y.cls ≠ "java/lang/invoke/MethodHandle" ∧ y.cls ≠ "java/lang/invoke/VarHandle") (hins : (Jvm.Cond.instantiable y.cls kk).before args s = true) (hpriv : (Jvm.Cond.privateMethod y).before args s = true) (hinst : (Jvm.Cond.instanceMethod y).before args s = true) : (Jvm.Cond.selects y.cls y y).before args s = true := by
  obtain ⟨c, k, hc, hk, -, hniab, -, -⟩ := Cond.instantiable_spec hins
  have hni : k.isInterface = false := (Bool.or_eq_false_iff.mp hniab).1
  obtain ⟨mk, methM, hnamed, hmethM, -, -⟩ := Cond.instanceMethod_spec hinst
  have hfound : s.methodFound? y.cls y.name y.desc = some mk := State.methodFound?_of_named hnamed hy
  have hcls : mk.cls = c := Option.some.inj ((findClass_of_methodNamed hnamed).symm.trans hc)
  have hsel : selectMethod {} s.vm c mk = .method mk := selectMethod_private hmethM (Cond.privateMethod_at hpriv mk methM hnamed hmethM)
  simp only [Cond.before, Cond.holds, Cond.value, hc, hfound, hnamed, hsel, hcls, hk]
  simp; exact hni
theorem o_callP (X : Stand p l e R s m args below meth c T locs cells slots) (hx : p.tables.exec = Jvm.exec) (hZ : Z.Warmed39 s.vm) {own C : String} {index kk : Nat} {y : MethodName} {bytes : ByteArray} {maxL : Nat} {ret : Option FieldType} {rm : Room} (hown : s.vm.findClass own = some m.cls) (w1 : (Jvm.Cond.methodLink own index y).before a0 Z = true) (w6 : (Jvm.Cond.instanceMethod y).before a0 Z = true) (w5 : (Jvm.Cond.privateMethod y).before a0 Z = true) (wi : (Jvm.Cond.instantiable y.cls kk).before a0 Z = true) (w3 : (Jvm.Cond.initialized y.cls).before a0 Z = true) (w4 : (Jvm.Cond.code y bytes maxL ret).before a0 Z = true) (hy : y.cls ≠ "java/lang/invoke/MethodHandle" ∧ y.cls ≠ "java/lang/invoke/VarHandle") (eT : T.heap = h)
    {a : Addr} (E : Exa Z h a C) {argsL rest : List Value} {Q' : Option Value → Heap → List Loc → Prop} (hM : Does l Z y bytes maxL ret [] rm (.ref a :: argsL).toArray h Q') (W : Nat) (hf : rm.frames + 1 ≤ R.frames) (hl : W + (maxL + 11) + rm.locals ≤ R.locals) (hc : cells + rm.cells ≤ R.cells) (hs : slots + rm.slots ≤ R.slots) (hsize : Ls.size = c.maxLocals) (hlen : ∀ sig, parseMethodDescriptor y.desc = some sig → argsL.length = sig.parameters.length) (hst : st = argsL.reverse ++ .ref a :: rest) (hW : (rest.map fun v => v.category).sum ≤ W) (hd : decode c.code pc = .ok (.invokevirtual index, 3)) (hn : pc + 3 = n)
    (k : ∀ v T' L', Stand p l e R s m args below meth c T' (locs ++ L') (cells + rm.cells) (slots + rm.slots) → Q' v T'.heap L' → Goes FF QV p e below s0 Q K N (T'.setTop (mkF m n Ls (v.toList ++ rest)))) : Goes FF QV p e below s0 Q K N (T.setTop (mkF m pc Ls st)) := by
  subst hn
  obtain ⟨cl, hcl, hob⟩ := E.cell
  obtain ⟨v, _, ⟨T', L, kk, nn⟩, -, X', ⟨Lc, hQ, l', y', z'⟩, st'⟩ := X.privateBack hx (y := y) hown (mvT hZ w1) (mvT hZ w6) (o_selpriv hy (mvT hZ wi) (mvP hZ w5) (mvT hZ w6)) (Cond.privateMethod_at (mvP hZ w5 (args := #[]))) (mvT hZ w4) hy (backOf (W := W) hM hZ w4 w3 hf hl) (g := mkF m pc Ls st) rfl hsize (Steps.refl _) (a := a) (by rw [eT]; exact hcl) hob (argsL := argsL) (rest := rest) hlen hst (by show 2 * 0 + _ ≤ _; omega) hd (fun _ _ => ⟨rfl, eT, hc, hs⟩)
  dsimp only [Pt.U, Pt.locs, Pt.cells, Pt.slots] at X' l' y' z' st' hQ
  subst l' y' z'
  exact (k v T' Lc X' hQ).via fun t q => st'.trans q
/-! returns -/
theorem o_retW (X : Stand p l e R s m args below meth c T locs cells slots) (hx : p.tables.exec = Jvm.exec) {t : FieldType} {w : Value} {i : Instr} (hret : meth.sig.returnType = some t) (hlk : meth.locks = false) (hnw : narrow t w = w)
    (hi : (i = .ireturn ∧ (t = .int ∨ t = .boolean ∨ t = .byte ∨ t = .char ∨ t = .short) ∧ ∃ z, w = .int z) ∨ (i = .lreturn ∧ t = .long ∧ ∃ z, w = .long z) ∨ (i = .dreturn ∧ t = .double ∧ ∃ z, w = .double z) ∨ (i = .freturn ∧ t = .float ∧ ∃ z, w = .float z) ∨ (i = .areturn ∧ t.isReference = true ∧ w.isRef = true))
    (hd : decode c.code pc = .ok (i, 1)) (hc : cells ≤ K) (hs : slots ≤ N) (eT : T.heap = h) (hQ : Q (some w) h locs) : Goes FrameEnd (fun _ => True) p e below s Q K N (T.setTop (mkF m pc Ls (w :: rest))) := by
  subst eT
  obtain ⟨fs, hr, hrun, hended, hW, hsame⟩ := X.leave (v := some w) (fun q => by rw [hret] at q; cases q) hlk
  exact ⟨_, _, retOut X hx hret hnw hi hd hr, hrun, hended, _, _, rfl, hQ, trivial, ⟨_, rfl⟩, hW, hsame.mono hc hs⟩
theorem o_ireturn (X : Stand p l e R s m args below meth c T locs cells slots) (hx : p.tables.exec = Jvm.exec) {x : Int32} (hret : meth.sig.returnType = some .int) (hlk : meth.locks = false) (hd : decode c.code pc = .ok (.ireturn, 1)) (hc : cells ≤ K) (hs : slots ≤ N) (eT : T.heap = h) (hQ : Q (some (.int x)) h locs) : Goes FrameEnd (fun _ => True) p e below s Q K N (T.setTop (mkF m pc Ls (.int x :: rest))) := o_retW X hx hret hlk rfl (Or.inl ⟨rfl, Or.inl rfl, x, rfl⟩) hd hc hs eT hQ
theorem o_lreturn (X : Stand p l e R s m args below meth c T locs cells slots) (hx : p.tables.exec = Jvm.exec) {x : Int64} (hret : meth.sig.returnType = some .long) (hlk : meth.locks = false) (hd : decode c.code pc = .ok (.lreturn, 1)) (hc : cells ≤ K) (hs : slots ≤ N) (eT : T.heap = h) (hQ : Q (some (.long x)) h locs) : Goes FrameEnd (fun _ => True) p e below s Q K N (T.setTop (mkF m pc Ls (.long x :: rest))) := o_retW X hx hret hlk rfl (Or.inr (Or.inl ⟨rfl, rfl, x, rfl⟩)) hd hc hs eT hQ
theorem o_areturn (X : Stand p l e R s m args below meth c T locs cells slots) (hx : p.tables.exec = Jvm.exec) {t : FieldType} {w : Value} (hret : meth.sig.returnType = some t) (hlk : meth.locks = false) (ht : t.isReference = true) (hw : w.isRef = true) (hd : decode c.code pc = .ok (.areturn, 1)) (hc : cells ≤ K) (hs : slots ≤ N) (eT : T.heap = h) (hQ : Q (some w) h locs) : Goes FrameEnd (fun _ => True) p e below s Q K N (T.setTop (mkF m pc Ls (w :: rest))) := o_retW X hx hret hlk (by cases t <;> first | rfl | cases ht) (Or.inr (Or.inr (Or.inr (Or.inr ⟨rfl, ht, hw⟩)))) hd hc hs eT hQ
/-- a boolean, byte, char or short: narrowed -/
theorem o_nreturn (X : Stand p l e R s m args below meth c T locs cells slots) (hx : p.tables.exec = Jvm.exec) {t : FieldType} {x : Int32} (hret : meth.sig.returnType = some t) (hlk : meth.locks = false) (ht : t = .boolean ∨ t = .byte ∨ t = .char ∨ t = .short) (hd : decode c.code pc = .ok (.ireturn, 1)) (hc : cells ≤ K) (hs : slots ≤ N) (eT : T.heap = h) (hQ : Q (some (.int (nar t x))) h locs) : Goes FrameEnd (fun _ => True) p e below s Q K N (T.setTop (mkF m pc Ls (.int x :: rest))) := by
  subst eT
  obtain ⟨fs, hr, hrun, hended, hW, hsame⟩ := X.leave (v := some (.int (nar t x))) (fun q => by rw [hret] at q; cases q) hlk
  exact ⟨_, _, retN X hx hret ht hd hr, hrun, hended, _, _, rfl, hQ, trivial, ⟨_, rfl⟩, hW, hsame.mono hc hs⟩
theorem o_return (X : Stand p l e R s m args below meth c T locs cells slots) (hx : p.tables.exec = Jvm.exec) (hret : meth.sig.returnType = none) (hlk : meth.locks = false) (hd : decode c.code pc = .ok (.return_, 1)) (hc : cells ≤ K) (hs : slots ≤ N) (eT : T.heap = h) (hQ : Q none h locs) : Goes FrameEnd (fun _ => True) p e below s Q K N (T.setTop (mkF m pc Ls [])) := by
  subst eT
  obtain ⟨fs, hr, hrun, hended, hW, hsame⟩ := X.leave (v := none) (fun _ => rfl) hlk
  exact ⟨_, _, X.returnOut hx hret hd hr, hrun, hended, _, _, rfl, hQ, trivial, ⟨_, rfl⟩, hW, hsame.mono hc hs⟩
/-- what a call that writes nothing promises -/
def Pur (h0 : Heap) (w : Value) (v : Option Value) (h : Heap) (L : List Loc) : Prop := v = some w ∧ h = h0 ∧ L = []

theorem o_ibW {Ts : List String} {vm₁ : Vm} (I : IB Z s.vm Ts) (hW : s.WarmedH vm₁) : IB Z vm₁ Ts := by
  obtain ⟨m, e, q⟩ := I
  exact ⟨m, ((hW.since 0).same_table (Nat.zero_le _)).trans e, q⟩
theorem backOfSV {y : MethodName} {bytes : ByteArray} {maxL : Nat} {ret : Option FieldType} {rm : Room} {len W : Nat} {as' : Array Value} {PV QV : Vm → Prop} {Q : Option Value → Heap → List Loc → Prop}
    (hM : DoesW l Z y bytes maxL ret [] rm as' h PV Q QV)
    (hZ : Z.Warmed39 s.vm) (wc : (Cond.code y bytes maxL ret).before a0 Z = true) (wz : (Cond.initialized y.cls).before a0 Z = true) (hf : rm.frames + 1 ≤ R.frames) (hl : W + (maxL + 11) + rm.locals ≤ R.locals) :
    BackS l R p e below s args y len W (fun A a => a = as' ∧ A.U.heap = h ∧ PV A.U.vm ∧ A.cells + rm.cells ≤ R.cells ∧ A.slots + rm.slots ≤ R.slots)
      (fun A _ v B => ∃ L, Q v B.U.heap L ∧ QV B.U.vm ∧ B.locs = A.locs ++ L ∧ B.cells = A.cells + rm.cells ∧ B.slots = A.slots + rm.slots) :=
  BackS.of_freeW (bytes := bytes) (maxL := maxL) (ret := ret) (E := fun _ _ o t L k n => k = rm.cells ∧ n = rm.slots ∧ QV t.vm ∧ ∃ v, o = .returned v ∧ Q v t.heap L) hM hf hl
    (fun m meth c A a Y hp => have hU : Z.Warmed39 A.U.vm := wtrans hZ Y.warmed
      ⟨by show (Cond.and _ .tt).before a A.U = true; rw [Cond.before_and, mv hU wc]; rfl, mv hU wc, mv hU wz, hp.2.2.2.1, hp.2.2.2.2⟩)
    (fun m meth c A a g mk Y hp => ⟨hp.1, wtrans hZ Y.warmed, hp.2.1, hp.2.2.1⟩) (fun _ _ _ _ _ _ _ _ _ => trivial)
    (fun _ _ _ _ ⟨v, L, h1, h2, h3, h4⟩ => ⟨L, _, _, h4, rfl, rfl, h3, v, h1, h2⟩)
    (fun m meth c A a g mk v t L k n Y hp _ _ ⟨e1, e2, e5, v', e3, e4⟩ => by cases e3; subst e1 e2; exact ⟨L, e4, e5, rfl, rfl, rfl⟩)
theorem o_callNW (X : Stand p l e R s m args below meth c T locs cells slots) (hx : p.tables.exec = Jvm.exec) (hZ : Z.Warmed39 s.vm) {own : String} {index : Nat} {y : MethodName} {bytes : ByteArray} {maxL : Nat} {rm : Room} (hy1 : y.name = "<init>") (hown : s.vm.findClass own = some m.cls) (w1 : (Jvm.Cond.methodLink own index y).before a0 Z = true) (w2 : (Jvm.Cond.instanceMethod y).before a0 Z = true) (w3 : (Jvm.Cond.initialized y.cls).before a0 Z = true) (w4 : (Jvm.Cond.code y bytes maxL none).before a0 Z = true) (hy : y.cls ≠ "java/lang/invoke/MethodHandle" ∧ y.cls ≠ "java/lang/invoke/VarHandle") (eT : T.heap = h)
    {a : Addr} {argsL rest : List Value} {Q' : Option Value → Heap → List Loc → Prop} {QV' : Vm → Prop} {Ts : List String} (I : IB Z s.vm Ts) (hM : DoesW l Z y bytes maxL none [] rm (.ref a :: argsL).toArray h (fun vm => IB Z vm Ts) Q' QV') (W : Nat) (hf : rm.frames + 1 ≤ R.frames) (hl : W + (maxL + 11) + rm.locals ≤ R.locals) (hc : cells + rm.cells ≤ R.cells) (hs : slots + rm.slots ≤ R.slots) (hsize : Ls.size = c.maxLocals) (hlen : ∀ sig, parseMethodDescriptor y.desc = some sig → argsL.length = sig.parameters.length) (hst : st = argsL.reverse ++ .ref a :: rest) (hW : (rest.map fun v => v.category).sum ≤ W) (hd : decode c.code pc = .ok (.invokespecial index, 3)) (hn : pc + 3 = n)
    (k : ∀ v T' L', Stand p l e R (s.setVm T'.vm) m args below meth c T' (locs ++ L') (cells + rm.cells) (slots + rm.slots) → s.Since T'.vm T'.heap.size → h.size ≤ T'.heap.size → Z.Warmed39 (s.setVm T'.vm).vm → (s.setVm T'.vm).vm.findClass own = some m.cls → QV' T'.vm → Q' v T'.heap L' → Goes FF QV p e below s0 Q K N (T'.setTop (mkF m n Ls (v.toList ++ rest)))) : Goes FF QV p e below s0 Q K N (T.setTop (mkF m pc Ls st)) := by
  subst hn
  obtain ⟨v, _, ⟨T', L, kk, nn⟩, -, X', hS', hgr, ⟨Lc, hQ, hV, l', y', z'⟩, st'⟩ := X.specialBackS hx (y := y) hy1 hown (mvT hZ w1) (mvT hZ w2) (mvT hZ w4) hy (backOfSV (W := W) hM hZ w4 w3 hf hl) (g := mkF m pc Ls st) rfl hsize (Steps.refl _) (a := a) (argsL := argsL) (rest := rest) hlen hst (by show 2 * 0 + _ ≤ _; omega) hd (fun _ hW => ⟨rfl, eT, o_ibW I hW, hc, hs⟩)
  dsimp only [Pt.U, Pt.locs, Pt.cells, Pt.slots] at X' l' y' z' st' hQ hS' hgr hV
  subst l' y' z'
  exact (k v T' Lc X' hS' (eT ▸ hgr) (State.Warmed39.trans (t := s) hZ hS'.1) (by rw [show (s.setVm T'.vm).vm = T'.vm from rfl, hS'.1.alike.findClass]; exact hown) hV hQ).via fun t q => st'.trans q
theorem o_callVW (X : Stand p l e R s m args below meth c T locs cells slots) (hx : p.tables.exec = Jvm.exec) (hZ : Z.Warmed39 s.vm) {own C : String} {index : Nat} {y : MethodName} {bytes : ByteArray} {maxL : Nat} {ret : Option FieldType} {rm : Room} (hown : s.vm.findClass own = some m.cls) (w1 : (Jvm.Cond.methodLink own index y).before a0 Z = true) (w2 : (Jvm.Cond.declares y).before a0 Z = true) (w5 : (Jvm.Cond.selects C y y).before a0 Z = true) (w6 : (Jvm.Cond.instanceMethod y).before a0 Z = true) (w3 : (Jvm.Cond.initialized y.cls).before a0 Z = true) (w4 : (Jvm.Cond.code y bytes maxL ret).before a0 Z = true) (hy : y.cls ≠ "java/lang/invoke/MethodHandle" ∧ y.cls ≠ "java/lang/invoke/VarHandle") (eT : T.heap = h)
    {a : Addr} (E : Exa Z h a C) {argsL rest : List Value} {Q' : Option Value → Heap → List Loc → Prop} {QV' : Vm → Prop} {Ts : List String} (I : IB Z s.vm Ts) (hM : DoesW l Z y bytes maxL ret [] rm (.ref a :: argsL).toArray h (fun vm => IB Z vm Ts) Q' QV') (W : Nat) (hf : rm.frames + 1 ≤ R.frames) (hl : W + (maxL + 11) + rm.locals ≤ R.locals) (hc : cells + rm.cells ≤ R.cells) (hs : slots + rm.slots ≤ R.slots) (hsize : Ls.size = c.maxLocals) (hlen : ∀ sig, parseMethodDescriptor y.desc = some sig → argsL.length = sig.parameters.length) (hst : st = argsL.reverse ++ .ref a :: rest) (hW : (rest.map fun v => v.category).sum ≤ W) (hd : decode c.code pc = .ok (.invokevirtual index, 3)) (hn : pc + 3 = n)
    (k : ∀ v T' L', Stand p l e R (s.setVm T'.vm) m args below meth c T' (locs ++ L') (cells + rm.cells) (slots + rm.slots) → s.Since T'.vm T'.heap.size → h.size ≤ T'.heap.size → Z.Warmed39 (s.setVm T'.vm).vm → (s.setVm T'.vm).vm.findClass own = some m.cls → QV' T'.vm → Q' v T'.heap L' → Goes FF QV p e below s0 Q K N (T'.setTop (mkF m n Ls (v.toList ++ rest)))) : Goes FF QV p e below s0 Q K N (T.setTop (mkF m pc Ls st)) := by
  subst hn
  obtain ⟨cq, kq, qa, qb, qc⟩ := isOf hZ eT E
  obtain ⟨v, _, ⟨T', L, kk, nn⟩, -, X', hS', hgr, ⟨Lc, hQ, hV, l', y', z'⟩, st'⟩ := X.virtualBackS hx (y := y) (z := y) hown (mvT hZ w1) (mvT hZ w2) (notFace_of_selects (args := #[]) (mvT hZ w5)) (mvT hZ w5) (mvT hZ w6) hy (backOfSV (W := W) hM hZ w4 w3 hf hl) qa qc (g := mkF m pc Ls st) rfl hsize (Steps.refl _) (argsL := argsL) (rest := rest) hlen hst (by show 2 * 0 + _ ≤ _; omega) hd (fun _ hW => ⟨rfl, eT, o_ibW I hW, hc, hs⟩)
  dsimp only [Pt.U, Pt.locs, Pt.cells, Pt.slots] at X' l' y' z' st' hQ hS' hgr hV
  subst l' y' z'
  exact (k v T' Lc X' hS' (eT ▸ hgr) (State.Warmed39.trans (t := s) hZ hS'.1) (by rw [show (s.setVm T'.vm).vm = T'.vm from rfl, hS'.1.alike.findClass]; exact hown) hV hQ).via fun t q => st'.trans q
/-- the method that is selected is another one -/
theorem o_callVO (X : Stand p l e R s m args below meth c T locs cells slots) (hx : p.tables.exec = Jvm.exec) (hZ : Z.Warmed39 s.vm) {own C : String} {index : Nat} {y z : MethodName} {bytes : ByteArray} {maxL : Nat} {ret : Option FieldType} {rm : Room} (hown : s.vm.findClass own = some m.cls) (w1 : (Jvm.Cond.methodLink own index y).before a0 Z = true) (w2 : (Jvm.Cond.declares y).before a0 Z = true) (w5 : (Jvm.Cond.selects C y z).before a0 Z = true) (w6 : (Jvm.Cond.instanceMethod z).before a0 Z = true) (w7 : (Jvm.Cond.selects C y y).before a0 Z = true ∨ NotFace s y) (w3 : (Jvm.Cond.initialized z.cls).before a0 Z = true) (w4 : (Jvm.Cond.code z bytes maxL ret).before a0 Z = true) (hy : y.cls ≠ "java/lang/invoke/MethodHandle" ∧ y.cls ≠ "java/lang/invoke/VarHandle") (eT : T.heap = h)
    {a : Addr} (E : Exa Z h a C) {argsL rest : List Value} {Q' : Option Value → Heap → List Loc → Prop} (hM : Does l Z z bytes maxL ret [] rm (.ref a :: argsL).toArray h Q') (W : Nat) (hf : rm.frames + 1 ≤ R.frames) (hl : W + (maxL + 11) + rm.locals ≤ R.locals) (hc : cells + rm.cells ≤ R.cells) (hs : slots + rm.slots ≤ R.slots) (hsize : Ls.size = c.maxLocals) (hlen : ∀ sig, parseMethodDescriptor y.desc = some sig → argsL.length = sig.parameters.length) (hst : st = argsL.reverse ++ .ref a :: rest) (hW : (rest.map fun v => v.category).sum ≤ W) (hd : decode c.code pc = .ok (.invokevirtual index, 3)) (hn : pc + 3 = n)
    (k : ∀ v T' L', Stand p l e R s m args below meth c T' (locs ++ L') (cells + rm.cells) (slots + rm.slots) → Q' v T'.heap L' → Goes FF QV p e below s0 Q K N (T'.setTop (mkF m n Ls (v.toList ++ rest)))) : Goes FF QV p e below s0 Q K N (T.setTop (mkF m pc Ls st)) := by
  subst hn
  obtain ⟨cq, kq, qa, qb, qc⟩ := isOf hZ eT E
  have nf : NotFace s y := w7.elim (fun w => notFace_of_selects (args := #[]) (mvT hZ w)) id
  obtain ⟨v, _, ⟨T', L, kk, nn⟩, -, X', ⟨Lc, hQ, l', y', z'⟩, st'⟩ := X.virtualBack hx (y := y) (z := z) hown (mvT hZ w1) (mvT hZ w2) nf (mvT hZ w5) (mvT hZ w6) hy (backOf (W := W) hM hZ w4 w3 hf hl) qa qc (g := mkF m pc Ls st) rfl hsize (Steps.refl _) (argsL := argsL) (rest := rest) hlen hst (by show 2 * 0 + _ ≤ _; omega) hd (fun _ _ => ⟨rfl, eT, hc, hs⟩)
  dsimp only [Pt.U, Pt.locs, Pt.cells, Pt.slots] at X' l' y' z' st' hQ
  subst l' y' z'
  exact (k v T' Lc X' hQ).via fun t q => st'.trans q
/-- a private method of a class that is above the object's: what a word on her class says -/
theorem o_selpriv2 {C : String} {y : MethodName} (hy : y.cls ≠ "java/lang/invoke/MethodHandle" ∧ y.cls ≠ "java/lang/invoke/VarHandle") (hsel : (Jvm.Cond.selects C y y).before args s = true) (hpriv : (Jvm.Cond.privateMethod y).before args s = true) (hinst : (Jvm.Cond.instanceMethod y).before args s = true) : (Jvm.Cond.selects y.cls y y).before args s = true := by
  obtain ⟨c2, r2, m2, q1, q2, q3, q4, kP, hkP, hkPi⟩ := Cond.selects_spec hsel
  obtain ⟨mk, methM, hnamed, hmethM, -, -⟩ := Cond.instanceMethod_spec hinst
  cases q3.symm.trans hnamed
  have hfound : s.methodFound? y.cls y.name y.desc = some m2 := State.methodFound?_of_named hnamed hy
  have hc : s.vm.findClass y.cls = some m2.cls := findClass_of_methodNamed hnamed
  have hs : selectMethod {} s.vm m2.cls m2 = .method m2 := selectMethod_private hmethM (Cond.privateMethod_at hpriv m2 methM hnamed hmethM)
  simp only [Cond.before, Cond.holds, Cond.value, hc, hfound, hnamed, hs, hkP]
  simp; exact hkPi
theorem o_callP2 (X : Stand p l e R s m args below meth c T locs cells slots) (hx : p.tables.exec = Jvm.exec) (hZ : Z.Warmed39 s.vm) {own C : String} {index : Nat} {y : MethodName} {bytes : ByteArray} {maxL : Nat} {ret : Option FieldType} {rm : Room} (hown : s.vm.findClass own = some m.cls) (w1 : (Jvm.Cond.methodLink own index y).before a0 Z = true) (w6 : (Jvm.Cond.instanceMethod y).before a0 Z = true) (w5 : (Jvm.Cond.privateMethod y).before a0 Z = true) (wi : (Jvm.Cond.selects C y y).before a0 Z = true) (w3 : (Jvm.Cond.initialized y.cls).before a0 Z = true) (w4 : (Jvm.Cond.code y bytes maxL ret).before a0 Z = true) (hy : y.cls ≠ "java/lang/invoke/MethodHandle" ∧ y.cls ≠ "java/lang/invoke/VarHandle") (eT : T.heap = h)
    {a : Addr} (E : Exa Z h a C) {argsL rest : List Value} {Q' : Option Value → Heap → List Loc → Prop} (hM : Does l Z y bytes maxL ret [] rm (.ref a :: argsL).toArray h Q') (W : Nat) (hf : rm.frames + 1 ≤ R.frames) (hl : W + (maxL + 11) + rm.locals ≤ R.locals) (hc : cells + rm.cells ≤ R.cells) (hs : slots + rm.slots ≤ R.slots) (hsize : Ls.size = c.maxLocals) (hlen : ∀ sig, parseMethodDescriptor y.desc = some sig → argsL.length = sig.parameters.length) (hst : st = argsL.reverse ++ .ref a :: rest) (hW : (rest.map fun v => v.category).sum ≤ W) (hd : decode c.code pc = .ok (.invokevirtual index, 3)) (hn : pc + 3 = n)
    (k : ∀ v T' L', Stand p l e R s m args below meth c T' (locs ++ L') (cells + rm.cells) (slots + rm.slots) → Q' v T'.heap L' → Goes FF QV p e below s0 Q K N (T'.setTop (mkF m n Ls (v.toList ++ rest)))) : Goes FF QV p e below s0 Q K N (T.setTop (mkF m pc Ls st)) := by
  subst hn
  obtain ⟨cl, hcl, hob⟩ := E.cell
  obtain ⟨v, _, ⟨T', L, kk, nn⟩, -, X', ⟨Lc, hQ, l', y', z'⟩, st'⟩ := X.privateBack hx (y := y) hown (mvT hZ w1) (mvT hZ w6) (o_selpriv2 hy (mvT hZ wi) (mvP hZ w5) (mvT hZ w6)) (Cond.privateMethod_at (mvP hZ w5 (args := #[]))) (mvT hZ w4) hy (backOf (W := W) hM hZ w4 w3 hf hl) (g := mkF m pc Ls st) rfl hsize (Steps.refl _) (a := a) (by rw [eT]; exact hcl) hob (argsL := argsL) (rest := rest) hlen hst (by show 2 * 0 + _ ≤ _; omega) hd (fun _ _ => ⟨rfl, eT, hc, hs⟩)
  dsimp only [Pt.U, Pt.locs, Pt.cells, Pt.slots] at X' l' y' z' st' hQ
  subst l' y' z'
  exact (k v T' Lc X' hQ).via fun t q => st'.trans q
/-- super.y(..) -/
theorem o_same {C : String} {y z : MethodName} (hsel : (Jvm.Cond.selects C y z).before args s = true) (hz : z.cls = y.cls) {w : MethodName} (hw : w.cls = y.cls) (hy : w.cls ≠ "java/lang/invoke/MethodHandle" ∧ w.cls ≠ "java/lang/invoke/VarHandle") (hinst : (Jvm.Cond.instanceMethod w).before args s = true) : (Jvm.Cond.sameMethod w.cls w.cls w.name w.desc).before args s = true := by
  obtain ⟨c2, r2, m2, q1, q2, q3, q4, kP, hkP, hkPi⟩ := Cond.selects_spec hsel
  obtain ⟨mk, methM, hnamed, hmethM, -, -⟩ := Cond.instanceMethod_spec hinst
  have hfound : s.methodFound? w.cls w.name w.desc = some mk := State.methodFound?_of_named hnamed hy
  have hc : s.vm.findClass w.cls = some mk.cls := findClass_of_methodNamed hnamed
  have hc2 : s.vm.findClass z.cls = some m2.cls := findClass_of_methodNamed q3
  have e : mk.cls = m2.cls := by rw [hz, ← hw, hc] at hc2; exact Option.some.inj hc2
  have hnamed' : s.methodNamed? ⟨w.cls, w.name, w.desc⟩ = some mk := hnamed
  simp only [Cond.before, Cond.holds, Cond.value, hc, hfound, hnamed', e, hkP]
  simp [hkPi]
theorem o_super (X : Stand p l e R s m args below meth c T locs cells slots) (hx : p.tables.exec = Jvm.exec) (hZ : Z.Warmed39 s.vm) {own C : String} {index : Nat} {y : MethodName} {bytes : ByteArray} {maxL : Nat} {ret : Option FieldType} {rm : Room} (hown : s.vm.findClass own = some m.cls) (w1 : (Jvm.Cond.methodLink own index y).before a0 Z = true) (w2 : (Jvm.Cond.sameMethod y.cls y.cls y.name y.desc).before a0 Z = true) (w6 : (Jvm.Cond.instanceMethod y).before a0 Z = true) (w5 : (Jvm.Cond.superclass own y.cls).before a0 Z = true) (hn1 : y.name ≠ "<init>") (w3 : (Jvm.Cond.initialized y.cls).before a0 Z = true) (w4 : (Jvm.Cond.code y bytes maxL ret).before a0 Z = true) (eT : T.heap = h)
    {a : Addr} (E : Exa Z h a C) {argsL rest : List Value} {Q' : Option Value → Heap → List Loc → Prop} (hM : Does l Z y bytes maxL ret [] rm (.ref a :: argsL).toArray h Q') (W : Nat) (hf : rm.frames + 1 ≤ R.frames) (hl : W + (maxL + 11) + rm.locals ≤ R.locals) (hc : cells + rm.cells ≤ R.cells) (hs : slots + rm.slots ≤ R.slots) (hsize : Ls.size = c.maxLocals) (hlen : ∀ sig, parseMethodDescriptor y.desc = some sig → argsL.length = sig.parameters.length) (hst : st = argsL.reverse ++ .ref a :: rest) (hW : (rest.map fun v => v.category).sum ≤ W) (hd : decode c.code pc = .ok (.invokespecial index, 3)) (hn : pc + 3 = n)
    (k : ∀ v T' L', Stand p l e R s m args below meth c T' (locs ++ L') (cells + rm.cells) (slots + rm.slots) → Q' v T'.heap L' → Goes FF QV p e below s0 Q K N (T'.setTop (mkF m n Ls (v.toList ++ rest)))) : Goes FF QV p e below s0 Q K N (T.setTop (mkF m pc Ls st)) := by
  subst hn
  obtain ⟨v, _, ⟨T', L, kk, nn⟩, -, X', ⟨Lc, hQ, l', y', z'⟩, st'⟩ := superBack X hx hZ (y := y) hown w1 w2 w6 w5 hn1 (backOf (W := W) hM hZ w4 w3 hf hl) eT (Ins.self E) (g := mkF m pc Ls st) rfl hsize w4 (argsL := argsL) (rest := rest) hlen hst (by show 2 * 0 + _ ≤ _; omega) hd (fun _ _ => ⟨rfl, eT, hc, hs⟩)
  dsimp only [Pt.U, Pt.locs, Pt.cells, Pt.slots] at X' l' y' z' st' hQ
  subst l' y' z'
  exact (k v T' Lc X' hQ).via fun t q => st'.trans q
theorem o_instanceof (X : Stand p l e R s m args below meth c T locs cells slots) (hx : p.tables.exec = Jvm.exec) (hZ : Z.Warmed39 s.vm) {own C : String} {index : Nat} (hown : s.vm.findClass own = some m.cls) (w : (Jvm.Cond.classLink own index C).before a0 Z = true) (eT : T.heap = h) {a : Addr} (E : Exa Z h a C) (hd : decode c.code pc = .ok (.instanceof index, 3)) (hn : pc + 3 = n)
    (k : ∀ T', Stand p l e R s m args below meth c T' locs cells slots → T'.heap = h → Goes FF QV p e below s0 Q K N (T'.setTop (mkF m n Ls (.int 1 :: rest)))) : Goes FF QV p e below s0 Q K N (T.setTop (mkF m pc Ls (.ref a :: rest))) := by
  subst hn
  obtain ⟨T', X', e', st'⟩ := instY X hx hZ hown w eT (Ins.self E) (g := mkF m pc Ls (.ref a :: rest)) rfl rfl hd
  exact (k T' X' e').via st'
theorem o_checkcast (X : Stand p l e R s m args below meth c T locs cells slots) (hx : p.tables.exec = Jvm.exec) (hZ : Z.Warmed39 s.vm) {own C : String} {index : Nat} (hown : s.vm.findClass own = some m.cls) (w : (Jvm.Cond.classLink own index C).before a0 Z = true) (eT : T.heap = h) {a : Addr} (E : Exa Z h a C) (hd : decode c.code pc = .ok (.checkcast index, 3)) (hn : pc + 3 = n)
    (k : ∀ T', Stand p l e R s m args below meth c T' locs cells slots → T'.heap = h → Goes FF QV p e below s0 Q K N (T'.setTop (mkF m n Ls (.ref a :: rest)))) : Goes FF QV p e below s0 Q K N (T.setTop (mkF m pc Ls (.ref a :: rest))) := by
  subst hn
  obtain ⟨T', X', e', st'⟩ := castY X hx hZ hown w eT (Ins.self E) (g := mkF m pc Ls (.ref a :: rest)) rfl rfl hd
  exact (k T' X' e').via st'
/-- a String constant, loaded for the first time in this run (it may be held already, or be made now) -/
theorem o_ldcS (X : Stand p l e R (s0.setVm vm0) m args below meth c T locs cells slots) (hx : p.tables.exec = Jvm.exec) (hZ : Z.Warmed39 (s0.setVm vm0).vm) {own text : String} {index : Nat} (hown : (s0.setVm vm0).vm.findClass own = some m.cls) (w : (Jvm.Cond.stringLink own index text).before a0 Z = true) (wS : ∀ a ∈ Bundle.stringAtoms, a.before a0 Z = true) (eT : T.heap = h) {k0 : Nat} (hS : s0.Since vm0 k0) (hk : k0 ≤ h.size) (N1 : Fr s0.heap.size locs) (hkeep : ∀ (b : Addr) (cl : Cell), Z.heap[b]? = some cl → s0.heap[b]? = some cl) {Ts : List String} (I : IB Z vm0 Ts) (hnot : text ∉ Ts) (hh : Jvm.Lit.constHeld Z own index) (hcw : Jvm.Lit.compactW.before a0 Z = true)
    {vs : List Value} {z : Int32} (ht : (∀ c ∈ text.toList, c.toNat < 256) ∧ text.toList.map (fun c => Value.int (Jvm.Lit.byteI c.toNat.toUInt16)) = vs) (hz : ¬ z < 0) (hl : z.toNatClampNeg = vs.length) (hd : decode c.code pc = .ok (.ldc index, 2)) {nn : Nat} (hn4 : 4 * text.toList.length ≤ nn) (hbig : nn ≤ 536870912) (hc : cells + 2 ≤ R.cells) (hl' : slots + (nn + 4) ≤ R.slots) (hn : pc + 2 = n)
    (k : ∀ T' h' a b kk k1, Stand p l e R (s0.setVm T'.vm) m args below meth c T' locs (cells + 2) (slots + (nn + 4)) → T'.heap = h' → Ext h h' → s0.Since T'.vm k1 → k1 ≤ h'.size → Z.Warmed39 (s0.setVm T'.vm).vm → (s0.setVm T'.vm).vm.findClass own = some m.cls → Exa Z h' a "java/lang/String" → Fld Z h' a "java/lang/String" "coder" "B" (.int 0) → Fld Z h' a "java/lang/String" "value" "[B" (.ref b) → Arv Z h' b kk .byte z vs (.int 0) → IB Z T'.vm (text :: Ts) → Lit (s0.setVm T'.vm) own index a → ((a < s0.heap.size ∧ b < s0.heap.size) ∨ (h.size ≤ a ∧ h.size ≤ b)) → Goes FF QV p e below s0 Q K N (T'.setTop (mkF m n Ls (.ref a :: st)))) : Goes FF QV p e below s0 Q K N (T.setTop (mkF m pc Ls st)) := by
  subst hn
  obtain ⟨a, T', h', k1, b, kk, X', e', E', hS', hk', hZ', hown', A1, A2, A3, A4, -, -, I', L', D', st'⟩ := ldcSVd X hx hZ hown w wS eT hS hk N1 hkeep I hnot hh hcw ht hz hl (g := mkF m pc Ls st) rfl hd hn4 hbig hc hl'
  exact (k T' h' a b kk k1 X' e' E' hS' hk' hZ' hown' A1 A2 A3 A4 I' L' D').via st'
theorem o_ldcA (X : Stand p l e R (s0.setVm vm0) m args below meth c T locs cells slots) (hx : p.tables.exec = Jvm.exec) (hZ : Z.Warmed39 (s0.setVm vm0).vm) {own text : String} {index : Nat} (hown : (s0.setVm vm0).vm.findClass own = some m.cls) (w : (Jvm.Cond.stringLink own index text).before a0 Z = true) {a : Addr} (L : Lit (s0.setVm vm0) own index a) (hd : decode c.code pc = .ok (.ldc index, 2)) (hn : pc + 2 = n)
    (k : Goes FF QV p e below s0 Q K N (T.setTop (mkF m n Ls (.ref a :: st)))) : Goes FF QV p e below s0 Q K N (T.setTop (mkF m pc Ls st)) := by
  subst hn
  exact k.via (ldcAgain X hx hZ hown w L (g := mkF m pc Ls st) rfl hd)
theorem o_caload (X : Stand p l e R s m args below meth c T locs cells slots) (hx : p.tables.exec = Jvm.exec) (hZ : Z.Warmed39 s.vm) (eT : T.heap = h) {a : Addr} {k : ClassId} {z j : Int32} {vs : List Value} {dv v : Value} (V : Arv Z h a k .char z vs dv) (i : Nat) (hi : j.toNatClampNeg = i) (hj : ¬ j < 0 ∧ j < z) (hv : vs.getD i dv = v) (hd : decode c.code pc = .ok (.caload, 1)) (hn : pc + 1 = n) (g : Goes FF QV p e below s0 Q K N (T.setTop (mkF m n Ls (v :: rest)))) : Goes FF QV p e below s0 Q K N (T.setTop (mkF m pc Ls (.int j :: .ref a :: rest))) := by
  subst hn hi
  obtain ⟨cl, A, -, S, M, H, -⟩ := V
  exact g.via fun t k => X.caload hx (by rw [eT]; exact A.1) (State.isArrayOf_alike hZ.alike A.2.1) A.2.2 (inb_of S hj) (Has.at H (inb_of S hj) hv) (g := mkF m pc Ls (.int j :: .ref a :: rest)) rfl rfl hd t k
theorem o_castore (X : Stand p l e R s m args below meth c T locs cells slots) (hx : p.tables.exec = Jvm.exec) (hZ : Z.Warmed39 s.vm) (eT : T.heap = h) {a : Addr} {k : ClassId} {z j : Int32} {x : Int32} {vs vs' : List Value} {dv w : Value} (V : Arv Z h a k .char z vs dv) (i : Nat) (hi : j.toNatClampNeg = i) (hj : ¬ j < 0 ∧ j < z) (hlen : i < vs.length) (hw : (.int (nar .char x)) = w) (hvs : vs.set i w = vs') (hfit : fits .char (.int (nar .char x)) = true) (hd : decode c.code pc = .ok (.castore, 1)) (hn : pc + 1 = n)
    (g : ∀ T' h', Stand p l e R s m args below meth c T' (locs ++ [⟨a, j.toNatClampNeg⟩]) cells slots → T'.heap = h' → Wr h h' a j.toNatClampNeg w → Arv Z h' a k .char z vs' dv → Goes FF QV p e below s0 Q K N (T'.setTop (mkF m n Ls rest))) : Goes FF QV p e below s0 Q K N (T.setTop (mkF m pc Ls (.int x :: .int j :: .ref a :: rest))) := by
  subst hn hvs hw
  obtain ⟨cl, A, q1, S, M, H, G⟩ := V
  obtain ⟨T', h', X', e', W, st'⟩ := stC X hx hZ eT A (j := j) (inb_of S hj) (g := mkF m pc Ls (.int x :: .int j :: .ref a :: rest)) rfl rfl hd
  exact (g T' h' X' e' W (Arv.set A q1 S M H G hfit W i hi hlen)).via st'
/-! returns of a body that may have interned -/
theorem o_retWW (X : Stand p l e R (s0.setVm vm0) m args below meth c T locs cells slots) (hx : p.tables.exec = Jvm.exec) {k0 : Nat} (hS : s0.Since vm0 k0) (hk : k0 ≤ h.size) {t : FieldType} {w : Value} {i : Instr} (hret : meth.sig.returnType = some t) (hlk : meth.locks = false) (hnw : narrow t w = w)
    (hi : (i = .ireturn ∧ (t = .int ∨ t = .boolean ∨ t = .byte ∨ t = .char ∨ t = .short) ∧ ∃ z, w = .int z) ∨ (i = .lreturn ∧ t = .long ∧ ∃ z, w = .long z) ∨ (i = .dreturn ∧ t = .double ∧ ∃ z, w = .double z) ∨ (i = .freturn ∧ t = .float ∧ ∃ z, w = .float z) ∨ (i = .areturn ∧ t.isReference = true ∧ w.isRef = true))
    (hd : decode c.code pc = .ok (i, 1)) (hc : cells ≤ K) (hs : slots ≤ N) (eT : T.heap = h) (hV : ∀ vm, (s0.setVm vm0).WarmedH vm → QV vm) (hQ : Q (some w) h locs) : Goes ReturnedEndW QV p e below s0 Q K N (T.setTop (mkF m pc Ls (w :: rest))) := by
  subst eT
  obtain ⟨fs, hr, hrun, hended, hE⟩ := X.leaveW hS hk (v := some w) (fun q => by rw [hret] at q; cases q) hlk
  exact ⟨_, _, retOut X hx hret hnw hi hd hr, hrun, hended, _, _, rfl, hQ, hV _ X.warmed, ⟨hE.1, hE.2.1, hE.2.2.1, hE.2.2.2.mono hc hs⟩⟩
theorem o_areturnW (X : Stand p l e R (s0.setVm vm0) m args below meth c T locs cells slots) (hx : p.tables.exec = Jvm.exec) {k0 : Nat} (hS : s0.Since vm0 k0) (hk : k0 ≤ h.size) {t : FieldType} {w : Value} (hret : meth.sig.returnType = some t) (hlk : meth.locks = false) (ht : t.isReference = true) (hw : w.isRef = true) (hd : decode c.code pc = .ok (.areturn, 1)) (hc : cells ≤ K) (hs : slots ≤ N) (eT : T.heap = h) (hV : ∀ vm, (s0.setVm vm0).WarmedH vm → QV vm) (hQ : Q (some w) h locs) : Goes ReturnedEndW QV p e below s0 Q K N (T.setTop (mkF m pc Ls (w :: rest))) := o_retWW X hx hS hk hret hlk (by cases t <;> first | rfl | cases ht) (Or.inr (Or.inr (Or.inr (Or.inr ⟨rfl, ht, hw⟩)))) hd hc hs eT hV hQ
theorem o_nreturnW (X : Stand p l e R (s0.setVm vm0) m args below meth c T locs cells slots) (hx : p.tables.exec = Jvm.exec) {k0 : Nat} (hS : s0.Since vm0 k0) (hk : k0 ≤ h.size) {t : FieldType} {x : Int32} (hret : meth.sig.returnType = some t) (hlk : meth.locks = false) (ht : t = .boolean ∨ t = .byte ∨ t = .char ∨ t = .short) (hd : decode c.code pc = .ok (.ireturn, 1)) (hc : cells ≤ K) (hs : slots ≤ N) (eT : T.heap = h) (hV : ∀ vm, (s0.setVm vm0).WarmedH vm → QV vm) (hQ : Q (some (.int (nar t x))) h locs) : Goes ReturnedEndW QV p e below s0 Q K N (T.setTop (mkF m pc Ls (.int x :: rest))) := by
  subst eT
  obtain ⟨fs, hr, hrun, hended, hE⟩ := X.leaveW hS hk (v := some (.int (nar t x))) (fun q => by rw [hret] at q; cases q) hlk
  exact ⟨_, _, retN X hx hret ht hd hr, hrun, hended, _, _, rfl, hQ, hV _ X.warmed, ⟨hE.1, hE.2.1, hE.2.2.1, hE.2.2.2.mono hc hs⟩⟩
theorem o_returnW (X : Stand p l e R (s0.setVm vm0) m args below meth c T locs cells slots) (hx : p.tables.exec = Jvm.exec) {k0 : Nat} (hS : s0.Since vm0 k0) (hk : k0 ≤ h.size) (hret : meth.sig.returnType = none) (hlk : meth.locks = false) (hd : decode c.code pc = .ok (.return_, 1)) (hc : cells ≤ K) (hs : slots ≤ N) (eT : T.heap = h) (hV : ∀ vm, (s0.setVm vm0).WarmedH vm → QV vm) (hQ : Q none h locs) : Goes ReturnedEndW QV p e below s0 Q K N (T.setTop (mkF m pc Ls [])) := by
  subst eT
  obtain ⟨fs, hr, hrun, hended, hE⟩ := X.leaveW hS hk (v := none) (fun _ => rfl) hlk
  exact ⟨_, _, X.returnOut hx hret hd hr, hrun, hended, _, _, rfl, hQ, hV _ X.warmed, ⟨hE.1, hE.2.1, hE.2.2.1, hE.2.2.2.mono hc hs⟩⟩
end Layer

theorem o_nz1 : nar .boolean (1 : Int32) = 1 := by decide
theorem o_nz0 : nar .boolean (0 : Int32) = 0 := by decide
theorem o_nar8 (x : Int32) : nar .byte x.toInt8.toInt32 = x.toInt8.toInt32 := by simp [nar]

theorem o_sta_keep {Z : State} {h h' : Heap} {C n d : String} {v : Value} {ws : List Addr} (F : Sta Z h C n d v) (K : Keep h h' ws) (q : ∀ a ∈ ws, ∀ cl : Cell, h[a]? = some cl → cl.vm.isStatics = false) : Sta Z h' C n d v := by
  obtain ⟨cf, i, k, f, st, cell, h1, h2, h3, h4, h5, h6, h7⟩ := F
  refine ⟨cf, i, k, f, st, cell, h1, h2, h3, h4, K.2.1 st cell h5 (fun z => ?_), h6, h7⟩
  have := q st z cell h5
  rw [h6] at this; cases this
theorem o_exa_ns {Z : State} {h : Heap} {a : Addr} {C : String} (E : Exa Z h a C) : ∀ cl : Cell, h[a]? = some cl → cl.vm.isStatics = false := fun cl hc => by
  obtain ⟨c1, k, h1, -, -, h4, -⟩ := E
  cases h1.symm.trans hc; exact h4
theorem o_arv_ns {Z : State} {h : Heap} {a : Addr} {k : ClassId} {ty : FieldType} {z : Int32} {vs : List Value} {dv : Value} (V : Arv Z h a k ty z vs dv) : ∀ cl : Cell, h[a]? = some cl → cl.vm.isStatics = false := fun cl hc => by
  obtain ⟨c1, A, -⟩ := V
  cases A.1.symm.trans hc; exact A.plain

theorem o_fitC (x : Int32) : fits .char (.int (nar .char x)) = true := fits_nar_char x
theorem o_nface {Z s : State} {a0 : Array Value} {C : String} {y w : MethodName} (hZ : Z.Warmed39 s.vm) (hsel : (Jvm.Cond.selects C y y).before a0 Z = true) (hw : w.cls = y.cls) : NotFace s w := fun r0 h0 => by
  obtain ⟨c2, r2, m2, q1, q2, q3, q4, kP, hkP, hkPi⟩ := Cond.selects_spec (mvT (args := #[]) hZ hsel)
  have a := findClass_of_methodNamed h0
  have b := findClass_of_methodNamed q3
  rw [hw, b] at a
  exact ⟨kP, by rw [← Option.some.inj a]; exact hkP, hkPi⟩
theorem o_atoms {Z : State} {a0 : Array Value} (w0 : (Jvm.Cond.initialized "java/lang/String").before a0 Z = true) (w1 : (Jvm.Cond.instantiable "java/lang/String" 4).before a0 Z = true) (w2 : (Jvm.Cond.arrayClass .byte).before a0 Z = true) (w3 : (Jvm.Cond.laysFinal "java/lang/String" "java/lang/String" "value" "[B").before a0 Z = true) (w4 : (Jvm.Cond.laysFinal "java/lang/String" "java/lang/String" "coder" "B").before a0 Z = true) (w5 : (Jvm.Cond.soleField "java/lang/String" "value").before a0 Z = true) (w6 : (Jvm.Cond.soleField "java/lang/String" "coder").before a0 Z = true) : ∀ a ∈ Bundle.stringAtoms, a.before a0 Z = true := by
  intro a ha
  simp only [Bundle.stringAtoms, Bundle.sN, List.mem_cons, List.not_mem_nil, or_false] at ha
  rcases ha with rfl | rfl | rfl | rfl | rfl | rfl | rfl <;> assumption
theorem o_nefld {Z : State} {h : Heap} {a b r : Addr} {C n d : String} (F : Fld Z h a C n d .null) (G : Fld Z h b C n d (.ref r)) : a ≠ b := fun q => by
  subst q
  obtain ⟨cell, cf, k, i, f, h1, h2, h3, h4, h5, h6, h7⟩ := F
  obtain ⟨cell', cf', k', i', f', g1, g2, g3, g4, g5, g6, g7⟩ := G
  cases h1.symm.trans g1
  cases h2.symm.trans g2
  cases h7.symm.trans g7
theorem o_nearv {Z : State} {h : Heap} {a b : Addr} {C : String} {a0 : Array Value} {kk : Nat} {k : ClassId} {ty : FieldType} {z : Int32} {vs : List Value} {dv : Value} (E : Exa Z h a C) (wi : (Jvm.Cond.instantiable C kk).before a0 Z = true) (G : Arv Z h b k ty z vs dv) : a ≠ b := by
  obtain ⟨c, A, -⟩ := G
  exact ne_arr E wi A
theorem o_nel {s : State} {h : Heap} {a b x : Addr} (D : (a < s.heap.size ∧ b < s.heap.size) ∨ (h.size ≤ a ∧ h.size ≤ b)) (h1 : s.heap.size ≤ x) (h2 : x < h.size) : x ≠ a ∧ x ≠ b := by
  rcases D with ⟨p, q⟩ | ⟨p, q⟩
  · exact ⟨fun e => absurd p (Nat.not_lt.mpr (e ▸ h1)), fun e => absurd q (Nat.not_lt.mpr (e ▸ h1))⟩
  · exact ⟨fun e => absurd h2 (Nat.not_lt.mpr (e ▸ p)), fun e => absurd h2 (Nat.not_lt.mpr (e ▸ q))⟩
theorem o_frw {n0 k : Nat} {L : List Loc} (h : n0 ≤ k) (N : Fr k L) : Fr n0 L := fun y hy => Nat.le_trans h (N y hy)
theorem o_and3 (x : Int32) : x &&& 3 = 0 ∨ x &&& 3 = 1 ∨ x &&& 3 = 2 ∨ x &&& 3 = 3 := by
  have h := c_mask x 3 2 (by decide) (by decide)
  have h1 : 0 ≤ x.toInt % (2 ^ 2 : Nat) := Int.emod_nonneg _ (by decide)
  have h2 : x.toInt % (2 ^ 2 : Nat) < (2 ^ 2 : Nat) := Int.emod_lt_of_pos _ (by decide)
  rw [← h] at h1 h2
  simp only [← Int32.toInt_inj]
  have e0 : (0 : Int32).toInt = 0 := rfl
  have e1 : (1 : Int32).toInt = 1 := rfl
  have e2 : (2 : Int32).toInt = 2 := rfl
  have e3 : (3 : Int32).toInt = 3 := rfl
  omega
theorem o_chF : ∀ u : Fin 256, (Int32.ofNat u.val).toUInt32.toUInt16.toUInt32.toInt32 = Int32.ofNat u.val ∧ ¬ (255 : Int32) < Int32.ofNat u.val ∧ nar .char (Int32.ofNat u.val) = Int32.ofNat u.val := by decide +kernel
theorem o_ch (x : Int32) : ∃ c : Int32, (x &&& (255 : Int32)).toUInt32.toUInt16.toUInt32.toInt32 = c ∧ ¬ (255 : Int32) < c ∧ nar .char c = c := by
  have h := c_mask x 255 8 (by decide) (by decide)
  have e : ((2 ^ 8 : Nat) : Int) = 256 := rfl
  rw [e] at h
  have e2 : x &&& 255 = Int32.ofNat (x.toInt % 256).toNat := by
    apply Int32.toInt_inj.mp
    rw [h, Int32.toInt_ofNat_of_lt (by omega)]; omega
  have := o_chF ⟨(x.toInt % 256).toNat, by omega⟩
  rw [e2]
  exact ⟨_, this.1, this.2.1, this.2.2⟩
def o_oc (k : Int32) (x0 x1 x2 x3 : Addr) : Addr := if k = 0 then x0 else if k = 1 then x1 else if k = 2 then x2 else x3

theorem d_jdk_52_method_21_code_0 : decode jdk_52_method_21_code 0 = .ok (.iconst 0, 1) := by decide +kernel
theorem d_jdk_52_method_21_code_1 : decode jdk_52_method_21_code 1 = .ok (.istore 5, 2) := by decide +kernel
theorem d_jdk_52_method_21_code_3 : decode jdk_52_method_21_code 3 = .ok (.iload 5, 2) := by decide +kernel
theorem d_jdk_52_method_21_code_5 : decode jdk_52_method_21_code 5 = .ok (.iload 4, 2) := by decide +kernel
theorem d_jdk_52_method_21_code_7 : decode jdk_52_method_21_code 7 = .ok (.if_icmp .ge 37, 3) := by decide +kernel
theorem d_jdk_52_method_21_code_10 : decode jdk_52_method_21_code 10 = .ok (.aload_n 0, 1) := by decide +kernel
theorem d_jdk_52_method_21_code_11 : decode jdk_52_method_21_code 11 = .ok (.iload_n 1, 1) := by decide +kernel
theorem d_jdk_52_method_21_code_12 : decode jdk_52_method_21_code 12 = .ok (.caload, 1) := by decide +kernel
theorem d_jdk_52_method_21_code_13 : decode jdk_52_method_21_code 13 = .ok (.istore 6, 2) := by decide +kernel
theorem d_jdk_52_method_21_code_15 : decode jdk_52_method_21_code 15 = .ok (.iload 6, 2) := by decide +kernel
theorem d_jdk_52_method_21_code_17 : decode jdk_52_method_21_code 17 = .ok (.sipush 255, 3) := by decide +kernel
theorem d_jdk_52_method_21_code_20 : decode jdk_52_method_21_code 20 = .ok (.if_icmp .le 6, 3) := by decide +kernel
theorem d_jdk_52_method_21_code_26 : decode jdk_52_method_21_code 26 = .ok (.aload_n 2, 1) := by decide +kernel
theorem d_jdk_52_method_21_code_27 : decode jdk_52_method_21_code 27 = .ok (.iload_n 3, 1) := by decide +kernel
theorem d_jdk_52_method_21_code_28 : decode jdk_52_method_21_code 28 = .ok (.iload 6, 2) := by decide +kernel
theorem d_jdk_52_method_21_code_30 : decode jdk_52_method_21_code 30 = .ok (.i2b, 1) := by decide +kernel
theorem d_jdk_52_method_21_code_31 : decode jdk_52_method_21_code 31 = .ok (.bastore, 1) := by decide +kernel
theorem d_jdk_52_method_21_code_32 : decode jdk_52_method_21_code 32 = .ok (.iinc 1 1, 3) := by decide +kernel
theorem d_jdk_52_method_21_code_35 : decode jdk_52_method_21_code 35 = .ok (.iinc 3 1, 3) := by decide +kernel
theorem d_jdk_52_method_21_code_38 : decode jdk_52_method_21_code 38 = .ok (.iinc 5 1, 3) := by decide +kernel
theorem d_jdk_52_method_21_code_41 : decode jdk_52_method_21_code 41 = .ok (.goto (-38), 3) := by decide +kernel
theorem d_jdk_52_method_21_code_44 : decode jdk_52_method_21_code 44 = .ok (.iload 4, 2) := by decide +kernel
theorem d_jdk_52_method_21_code_46 : decode jdk_52_method_21_code 46 = .ok (.ireturn, 1) := by decide +kernel
theorem o_ef1 (m : MethodId) (g : Addr) (r : Addr) : entryFrame m #[(.ref g), (.int (0 : Int32)), (.ref r), (.int (0 : Int32)), (.int (2 : Int32))] 7 = mkF m 0 #[.val (.ref g), .val (.int (0 : Int32)), .val (.ref r), .val (.int (0 : Int32)), .val (.int (2 : Int32)), .unset, .unset] [] := by first | (simp [entryFrame, mkF, argsToLocals, Value.category]; done) | rfl
theorem o_pn0 : plainName "java/lang/StringUTF16" = true := by first | (simp [plainName, overriddenIn]; done) | decide +kernel
set_option maxRecDepth 65536 in
set_option maxHeartbeats 40000000 in
theorem c_cp1 (l : Launch) (Z : State) (a0 : Array Value) (hw : ∀ d ∈ tables_1, d.before a0 Z = true) (g : Addr) (kg : ClassId) (r : Addr) (kr : ClassId) (c0 : Int32) (c1 : Int32) (h0 : Heap) (n0 : Nat) (Z0 : n0 ≤ h0.size) (pg_r : n0 ≤ r) (pV_g : Arv Z h0 g kg .char (2 : Int32) [(.int c0), (.int c1)] (.int (0 : Int32))) (pV_r : Arv Z h0 r kr .byte (2 : Int32) [(.int (0 : Int32)), (.int (0 : Int32))] (.int (0 : Int32))) (pne_g_r : g ≠ r) (hq0 : ¬ (255 : Int32) < c0) (hq1 : ¬ (255 : Int32) < c1) :
    Does l Z (⟨"java/lang/StringUTF16", "compress", "([CI[BII)I"⟩ : MethodName) jdk_52_method_21_code 7 (some .int) [] ({ frames := 0, cells := 0, slots := 0, locals := 0 } : Room) #[(.ref g), (.int (0 : Int32)), (.ref r), (.int (0 : Int32)), (.int (2 : Int32))] h0 (fun v h L => v = some (.int (2 : Int32)) ∧ Fr n0 L ∧ Keep h0 h [r] ∧ Arv Z h r kr .byte (2 : Int32) [(.int c0.toInt8.toInt32), (.int c1.toInt8.toInt32)] (.int (0 : Int32))) := by
  refine Does.of (plainFor_of_name o_pn0) ?_
  intro p e s m below meth c T0 hx hby hml hown hnm hret hlk hZ X0 e0
  have hown : s.vm.findClass "java/lang/StringUTF16" = some m.cls := hown
  have hml : c.maxLocals = 7 := hml
  have hret : meth.sig.returnType = some .int := hret
  refine o_entry (o_ef1 m g r) ?_
  have N0 := Fr.nil n0
  refine o_iconst X0 hx (hb hby d_jdk_52_method_21_code_0) (v := (0 : Int32)) rfl (n := 1) rfl ?_
  refine o_istore X0 hx (hb hby d_jdk_52_method_21_code_1) (Ls' := #[.val (.ref g), .val (.int (0 : Int32)), .val (.ref r), .val (.int (0 : Int32)), .val (.int (2 : Int32)), .val (.int (0 : Int32)), .unset]) rfl (n := 3) rfl ?_
  refine o_iload X0 hx (hb hby d_jdk_52_method_21_code_3) (v := (0 : Int32)) rfl (n := 5) rfl ?_
  refine o_iload X0 hx (hb hby d_jdk_52_method_21_code_5) (v := (2 : Int32)) rfl (n := 7) rfl ?_
  refine o_icmpN X0 hx (hb hby d_jdk_52_method_21_code_7) (XT.ii_ge_f (by decide)) (n := 10) rfl ?_
  refine o_aloadN X0 hx (hb hby d_jdk_52_method_21_code_10) (v := (.ref g)) rfl rfl (n := 11) rfl ?_
  refine o_iloadN X0 hx (hb hby d_jdk_52_method_21_code_11) (v := (0 : Int32)) rfl (n := 12) rfl ?_
  refine o_caload X0 hx hZ e0 pV_g (0) (by decide) (by decide) (v := (.int c0)) rfl (hb hby d_jdk_52_method_21_code_12) (n := 13) rfl ?_
  refine o_istore X0 hx (hb hby d_jdk_52_method_21_code_13) (Ls' := #[.val (.ref g), .val (.int (0 : Int32)), .val (.ref r), .val (.int (0 : Int32)), .val (.int (2 : Int32)), .val (.int (0 : Int32)), .val (.int c0)]) rfl (n := 15) rfl ?_
  refine o_iload X0 hx (hb hby d_jdk_52_method_21_code_15) (v := c0) rfl (n := 17) rfl ?_
  refine o_sipush X0 hx (hb hby d_jdk_52_method_21_code_17) (v := (255 : Int32)) rfl (n := 20) rfl ?_
  refine o_icmpY X0 hx (hb hby d_jdk_52_method_21_code_20) (XT.ii_le_t hq0) (by decide) (n := 26) (by decide) ?_
  refine o_aloadN X0 hx (hb hby d_jdk_52_method_21_code_26) (v := (.ref r)) rfl rfl (n := 27) rfl ?_
  refine o_iloadN X0 hx (hb hby d_jdk_52_method_21_code_27) (v := (0 : Int32)) rfl (n := 28) rfl ?_
  refine o_iload X0 hx (hb hby d_jdk_52_method_21_code_28) (v := c0) rfl (n := 30) rfl ?_
  refine o_i2b X0 hx (hb hby d_jdk_52_method_21_code_30) (v := c0.toInt8.toInt32) rfl (n := 31) rfl ?_
  refine o_bastore X0 hx hZ e0 pV_r (0) (by decide) (by decide) (Nat.le_of_ble_eq_true rfl) (w := (.int c0.toInt8.toInt32)) (congrArg Value.int (o_nar8 _)) (vs' := [(.int c0.toInt8.toInt32), (.int (0 : Int32))]) rfl (hb hby d_jdk_52_method_21_code_31) (n := 32) rfl ?_
  intro T1 h1 X1 e1 W1 V1
  have f2 := pV_g.other W1 pne_g_r
  have zz1 : n0 ≤ h1.size := Nat.le_trans Z0 (Nat.le_of_eq W1.size.symm)
  have N3 := Fr.snoc X1 N0 pg_r
  have K4 : Keep h0 h1 [r] := (Keep.refl h0 [r]).wr W1 (Or.inl (List.mem_of_getElem? (i := 0) rfl))
  refine o_iinc X1 hx (hb hby d_jdk_52_method_21_code_32) (w := (1 : Int32)) rfl (by decide) (Ls' := #[.val (.ref g), .val (.int (1 : Int32)), .val (.ref r), .val (.int (0 : Int32)), .val (.int (2 : Int32)), .val (.int (0 : Int32)), .val (.int c0)]) rfl (n := 35) rfl ?_
  refine o_iinc X1 hx (hb hby d_jdk_52_method_21_code_35) (w := (1 : Int32)) rfl (by decide) (Ls' := #[.val (.ref g), .val (.int (1 : Int32)), .val (.ref r), .val (.int (1 : Int32)), .val (.int (2 : Int32)), .val (.int (0 : Int32)), .val (.int c0)]) rfl (n := 38) rfl ?_
  refine o_iinc X1 hx (hb hby d_jdk_52_method_21_code_38) (w := (1 : Int32)) rfl (by decide) (Ls' := #[.val (.ref g), .val (.int (1 : Int32)), .val (.ref r), .val (.int (1 : Int32)), .val (.int (2 : Int32)), .val (.int (1 : Int32)), .val (.int c0)]) rfl (n := 41) rfl ?_
  refine o_goto X1 hx (hb hby d_jdk_52_method_21_code_41) (by decide) (n := 3) (by decide) ?_
  refine o_iload X1 hx (hb hby d_jdk_52_method_21_code_3) (v := (1 : Int32)) rfl (n := 5) rfl ?_
  refine o_iload X1 hx (hb hby d_jdk_52_method_21_code_5) (v := (2 : Int32)) rfl (n := 7) rfl ?_
  refine o_icmpN X1 hx (hb hby d_jdk_52_method_21_code_7) (XT.ii_ge_f (by decide)) (n := 10) rfl ?_
  refine o_aloadN X1 hx (hb hby d_jdk_52_method_21_code_10) (v := (.ref g)) rfl rfl (n := 11) rfl ?_
  refine o_iloadN X1 hx (hb hby d_jdk_52_method_21_code_11) (v := (1 : Int32)) rfl (n := 12) rfl ?_
  refine o_caload X1 hx hZ e1 f2 (1) (by decide) (by decide) (v := (.int c1)) rfl (hb hby d_jdk_52_method_21_code_12) (n := 13) rfl ?_
  refine o_istore X1 hx (hb hby d_jdk_52_method_21_code_13) (Ls' := #[.val (.ref g), .val (.int (1 : Int32)), .val (.ref r), .val (.int (1 : Int32)), .val (.int (2 : Int32)), .val (.int (1 : Int32)), .val (.int c1)]) rfl (n := 15) rfl ?_
  refine o_iload X1 hx (hb hby d_jdk_52_method_21_code_15) (v := c1) rfl (n := 17) rfl ?_
  refine o_sipush X1 hx (hb hby d_jdk_52_method_21_code_17) (v := (255 : Int32)) rfl (n := 20) rfl ?_
  refine o_icmpY X1 hx (hb hby d_jdk_52_method_21_code_20) (XT.ii_le_t hq1) (by decide) (n := 26) (by decide) ?_
  refine o_aloadN X1 hx (hb hby d_jdk_52_method_21_code_26) (v := (.ref r)) rfl rfl (n := 27) rfl ?_
  refine o_iloadN X1 hx (hb hby d_jdk_52_method_21_code_27) (v := (1 : Int32)) rfl (n := 28) rfl ?_
  refine o_iload X1 hx (hb hby d_jdk_52_method_21_code_28) (v := c1) rfl (n := 30) rfl ?_
  refine o_i2b X1 hx (hb hby d_jdk_52_method_21_code_30) (v := c1.toInt8.toInt32) rfl (n := 31) rfl ?_
  refine o_bastore X1 hx hZ e1 V1 (1) (by decide) (by decide) (Nat.le_of_ble_eq_true rfl) (w := (.int c1.toInt8.toInt32)) (congrArg Value.int (o_nar8 _)) (vs' := [(.int c0.toInt8.toInt32), (.int c1.toInt8.toInt32)]) rfl (hb hby d_jdk_52_method_21_code_31) (n := 32) rfl ?_
  intro T5 h5 X5 e5 W5 V5
  have f6 := f2.other W5 pne_g_r
  have zz5 : n0 ≤ h5.size := Nat.le_trans zz1 (Nat.le_of_eq W5.size.symm)
  have N7 := Fr.snoc X5 N3 pg_r
  have K8 : Keep h0 h5 [r] := K4.wr W5 (Or.inl (List.mem_of_getElem? (i := 0) rfl))
  refine o_iinc X5 hx (hb hby d_jdk_52_method_21_code_32) (w := (2 : Int32)) rfl (by decide) (Ls' := #[.val (.ref g), .val (.int (2 : Int32)), .val (.ref r), .val (.int (1 : Int32)), .val (.int (2 : Int32)), .val (.int (1 : Int32)), .val (.int c1)]) rfl (n := 35) rfl ?_
  refine o_iinc X5 hx (hb hby d_jdk_52_method_21_code_35) (w := (2 : Int32)) rfl (by decide) (Ls' := #[.val (.ref g), .val (.int (2 : Int32)), .val (.ref r), .val (.int (2 : Int32)), .val (.int (2 : Int32)), .val (.int (1 : Int32)), .val (.int c1)]) rfl (n := 38) rfl ?_
  refine o_iinc X5 hx (hb hby d_jdk_52_method_21_code_38) (w := (2 : Int32)) rfl (by decide) (Ls' := #[.val (.ref g), .val (.int (2 : Int32)), .val (.ref r), .val (.int (2 : Int32)), .val (.int (2 : Int32)), .val (.int (2 : Int32)), .val (.int c1)]) rfl (n := 41) rfl ?_
  refine o_goto X5 hx (hb hby d_jdk_52_method_21_code_41) (by decide) (n := 3) (by decide) ?_
  refine o_iload X5 hx (hb hby d_jdk_52_method_21_code_3) (v := (2 : Int32)) rfl (n := 5) rfl ?_
  refine o_iload X5 hx (hb hby d_jdk_52_method_21_code_5) (v := (2 : Int32)) rfl (n := 7) rfl ?_
  refine o_icmpY X5 hx (hb hby d_jdk_52_method_21_code_7) (XT.ii_ge_t (by decide)) (by decide) (n := 44) (by decide) ?_
  refine o_iload X5 hx (hb hby d_jdk_52_method_21_code_44) (v := (2 : Int32)) rfl (n := 46) rfl ?_
  exact o_ireturn X5 hx hret hlk (hb hby d_jdk_52_method_21_code_46) (by decide) (by decide) e5 ⟨rfl, N7, K8, V5⟩
theorem d_jdk_52_method_16_code_0 : decode jdk_52_method_16_code 0 = .ok (.iload_n 2, 1) := by decide +kernel
theorem d_jdk_52_method_16_code_1 : decode jdk_52_method_16_code 1 = .ok (.newarray .byte, 2) := by decide +kernel
theorem d_jdk_52_method_16_code_3 : decode jdk_52_method_16_code 3 = .ok (.astore_n 3, 1) := by decide +kernel
theorem d_jdk_52_method_16_code_4 : decode jdk_52_method_16_code 4 = .ok (.aload_n 0, 1) := by decide +kernel
theorem d_jdk_52_method_16_code_5 : decode jdk_52_method_16_code 5 = .ok (.iload_n 1, 1) := by decide +kernel
theorem d_jdk_52_method_16_code_6 : decode jdk_52_method_16_code 6 = .ok (.aload_n 3, 1) := by decide +kernel
theorem d_jdk_52_method_16_code_7 : decode jdk_52_method_16_code 7 = .ok (.iconst 0, 1) := by decide +kernel
theorem d_jdk_52_method_16_code_8 : decode jdk_52_method_16_code 8 = .ok (.iload_n 2, 1) := by decide +kernel
theorem d_jdk_52_method_16_code_9 : decode jdk_52_method_16_code 9 = .ok (.invokestatic 115, 3) := by decide +kernel
theorem o_pd0 : parseMethodDescriptor "([CI[BII)I" = some ⟨[(.array .char), .int, (.array .byte), .int, .int], some .int⟩ := by decide +kernel
theorem d_jdk_52_method_16_code_12 : decode jdk_52_method_16_code 12 = .ok (.istore 4, 2) := by decide +kernel
theorem d_jdk_52_method_16_code_14 : decode jdk_52_method_16_code 14 = .ok (.iload 4, 2) := by decide +kernel
theorem d_jdk_52_method_16_code_16 : decode jdk_52_method_16_code 16 = .ok (.iload_n 2, 1) := by decide +kernel
theorem d_jdk_52_method_16_code_17 : decode jdk_52_method_16_code 17 = .ok (.if_icmp .eq 40, 3) := by decide +kernel
theorem d_jdk_52_method_16_code_57 : decode jdk_52_method_16_code 57 = .ok (.aload_n 3, 1) := by decide +kernel
theorem d_jdk_52_method_16_code_58 : decode jdk_52_method_16_code 58 = .ok (.areturn, 1) := by decide +kernel
theorem o_ef2 (m : MethodId) (g : Addr) : entryFrame m #[(.ref g), (.int (0 : Int32)), (.int (2 : Int32))] 6 = mkF m 0 #[.val (.ref g), .val (.int (0 : Int32)), .val (.int (2 : Int32)), .unset, .unset, .unset] [] := by first | (simp [entryFrame, mkF, argsToLocals, Value.category]; done) | rfl
set_option maxRecDepth 65536 in
set_option maxHeartbeats 40000000 in
theorem c_cp2 (l : Launch) (Z : State) (a0 : Array Value) (hw : ∀ d ∈ tables_1, d.before a0 Z = true) (g : Addr) (kg : ClassId) (c0 : Int32) (c1 : Int32) (h0 : Heap) (n0 : Nat) (Z0 : n0 ≤ h0.size) (pV_g : Arv Z h0 g kg .char (2 : Int32) [(.int c0), (.int c1)] (.int (0 : Int32))) (hq0 : ¬ (255 : Int32) < c0) (hq1 : ¬ (255 : Int32) < c1) :
    Does l Z (⟨"java/lang/StringUTF16", "compress", "([CII)[B"⟩ : MethodName) jdk_52_method_16_code 6 (some (.array .byte)) [] ({ frames := 1, cells := 1, slots := 2, locals := 18 } : Room) #[(.ref g), (.int (0 : Int32)), (.int (2 : Int32))] h0 (fun v h L => ∃ (n1 : Addr) (kn : ClassId), v = some (.ref n1) ∧ Fr n0 L ∧ Keep h0 h [] ∧ h0.size ≤ n1 ∧ Arv Z h n1 kn .byte (2 : Int32) [(.int c0.toInt8.toInt32), (.int c1.toInt8.toInt32)] (.int (0 : Int32))) := by
  refine Does.of (plainFor_of_name o_pn0) ?_
  intro p e s m below meth c T0 hx hby hml hown hnm hret hlk hZ X0 e0
  have hown : s.vm.findClass "java/lang/StringUTF16" = some m.cls := hown
  have hml : c.maxLocals = 6 := hml
  have hret : meth.sig.returnType = some (.array .byte) := hret
  refine o_entry (o_ef2 m g) ?_
  have N0 := Fr.nil n0
  refine o_iloadN X0 hx (hb hby d_jdk_52_method_16_code_0) (v := (2 : Int32)) rfl (n := 1) rfl ?_
  refine o_newarray X0 hx hZ (aty := .byte) (hw _ (List.mem_of_getElem? (i := 19) rfl)) e0 (hb hby d_jdk_52_method_16_code_1) (by decide) 2 (by decide) (by decide) (by decide) (by decide) (n := 3) rfl ?_
  intro T1 h1 b1 k1 X1 e1 g1 E1 V1
  have ne2 : g ≠ b1 := Nat.ne_of_lt (Nat.lt_of_lt_of_eq pV_g.lt g1.symm)
  have gg1 : n0 ≤ b1 := Nat.le_trans Z0 (Nat.le_of_eq g1.symm)
  have zz1 : n0 ≤ h1.size := Nat.le_trans Z0 E1.1
  have sz1 : h0.size ≤ b1 := Nat.le_trans (Keep.refl h0 []).1 (Nat.le_of_eq g1.symm)
  have f3 := pV_g.ext E1
  have K4 : Keep h0 h1 [] := (Keep.refl h0 []).ext E1
  have f5 : Arv Z h1 b1 k1 .byte (2 : Int32) [(.int (0 : Int32)), (.int (0 : Int32))] (.int (0 : Int32)) := V1.pad (pad_rep [] (.int (0 : Int32)) 2)
  refine o_astoreN X1 hx (hb hby d_jdk_52_method_16_code_3) rfl (Ls' := #[.val (.ref g), .val (.int (0 : Int32)), .val (.int (2 : Int32)), .val (.ref b1), .unset, .unset]) rfl (n := 4) rfl ?_
  refine o_aloadN X1 hx (hb hby d_jdk_52_method_16_code_4) (v := (.ref g)) rfl rfl (n := 5) rfl ?_
  refine o_iloadN X1 hx (hb hby d_jdk_52_method_16_code_5) (v := (0 : Int32)) rfl (n := 6) rfl ?_
  refine o_aloadN X1 hx (hb hby d_jdk_52_method_16_code_6) (v := (.ref b1)) rfl rfl (n := 7) rfl ?_
  refine o_iconst X1 hx (hb hby d_jdk_52_method_16_code_7) (v := (0 : Int32)) rfl (n := 8) rfl ?_
  refine o_iloadN X1 hx (hb hby d_jdk_52_method_16_code_8) (v := (2 : Int32)) rfl (n := 9) rfl ?_
  refine o_callS X1 hx hZ hown (hw _ (List.mem_of_getElem? (i := 20) rfl)) (hw _ (List.mem_of_getElem? (i := 21) rfl)) (hw _ (List.mem_of_getElem? (i := 17) rfl)) (hw _ (List.mem_of_getElem? (i := 22) rfl)) (by decide) e1 (argsL := [(.ref g), (.int (0 : Int32)), (.ref b1), (.int (0 : Int32)), (.int (2 : Int32))]) (rest := []) (c_cp1 l Z a0 hw g kg b1 k1 c0 c1 h1 n0 zz1 gg1 f3 f5 ne2 hq0 hq1) 0 (by decide) (by decide) (by decide) (by decide) (by rw [hml]; rfl) (lenOf o_pd0 rfl) rfl (Nat.le_of_eq rfl) (hb hby d_jdk_52_method_16_code_9) (n := 12) rfl ?_
  intro v6 T6 L6 X6 q6
  obtain ⟨rfl, Nq6, K6, o6_0⟩ := q6
  have N7 := Fr.app N0 Nq6
  have f8 := f3.keep K6 (ninS ne2 nin0)
  have zz6 : n0 ≤ T6.heap.size := Nat.le_trans zz1 K6.1
  have K10 : Keep h0 T6.heap [] := K4.trans K6 (allS (P := fun x => x ∈ [] ∨ h0.size ≤ x) (Or.inr sz1) all0)
  show Goes _ _ p e below s _ _ _ (T6.setTop (mkF m 12 #[.val (.ref g), .val (.int (0 : Int32)), .val (.int (2 : Int32)), .val (.ref b1), .unset, .unset] [(.int (2 : Int32))]))
  refine o_istore X6 hx (hb hby d_jdk_52_method_16_code_12) (Ls' := #[.val (.ref g), .val (.int (0 : Int32)), .val (.int (2 : Int32)), .val (.ref b1), .val (.int (2 : Int32)), .unset]) rfl (n := 14) rfl ?_
  refine o_iload X6 hx (hb hby d_jdk_52_method_16_code_14) (v := (2 : Int32)) rfl (n := 16) rfl ?_
  refine o_iloadN X6 hx (hb hby d_jdk_52_method_16_code_16) (v := (2 : Int32)) rfl (n := 17) rfl ?_
  refine o_icmpY X6 hx (hb hby d_jdk_52_method_16_code_17) (XT.ii_eq_t (by decide)) (by decide) (n := 57) (by decide) ?_
  refine o_aloadN X6 hx (hb hby d_jdk_52_method_16_code_57) (v := (.ref b1)) rfl rfl (n := 58) rfl ?_
  exact o_areturn X6 hx hret hlk rfl rfl (hb hby d_jdk_52_method_16_code_58) (by decide) (by decide) (rfl : T6.heap = T6.heap) ⟨b1, k1, rfl, N7, K10, sz1, o6_0⟩
theorem d_jdk_52_method_15_code_0 : decode jdk_52_method_15_code 0 = .ok (.iload_n 1, 1) := by decide +kernel
theorem d_jdk_52_method_15_code_1 : decode jdk_52_method_15_code 1 = .ok (.aload_n 0, 1) := by decide +kernel
theorem d_jdk_52_method_15_code_2 : decode jdk_52_method_15_code 2 = .ok (.arraylength, 1) := by decide +kernel
theorem d_jdk_52_method_15_code_3 : decode jdk_52_method_15_code 3 = .ok (.isub, 1) := by decide +kernel
theorem d_jdk_52_method_15_code_4 : decode jdk_52_method_15_code 4 = .ok (.bipush 31, 2) := by decide +kernel
theorem d_jdk_52_method_15_code_6 : decode jdk_52_method_15_code 6 = .ok (.iushr, 1) := by decide +kernel
theorem d_jdk_52_method_15_code_7 : decode jdk_52_method_15_code 7 = .ok (.i2b, 1) := by decide +kernel
theorem d_jdk_52_method_15_code_8 : decode jdk_52_method_15_code 8 = .ok (.ireturn, 1) := by decide +kernel
theorem o_ef3 (m : MethodId) (r : Addr) : entryFrame m #[(.ref r), (.int (2 : Int32))] 2 = mkF m 0 #[.val (.ref r), .val (.int (2 : Int32))] [] := by first | (simp [entryFrame, mkF, argsToLocals, Value.category]; done) | rfl
set_option maxRecDepth 65536 in
set_option maxHeartbeats 40000000 in
theorem c_cfa (l : Launch) (Z : State) (a0 : Array Value) (hw : ∀ d ∈ tables_1, d.before a0 Z = true) (r : Addr) (kr : ClassId) (b0 : Int32) (y1 : Int32) (h0 : Heap) (pV_r : Arv Z h0 r kr .byte (2 : Int32) [(.int b0), (.int y1)] (.int (0 : Int32))) :
    Does l Z (⟨"java/lang/StringUTF16", "coderFromArrayLen", "([BI)B"⟩ : MethodName) jdk_52_method_15_code 2 (some .byte) [] ({ frames := 0, cells := 0, slots := 0, locals := 0 } : Room) #[(.ref r), (.int (2 : Int32))] h0 (Pur h0 (.int (0 : Int32))) := by
  refine Does.of (plainFor_of_name o_pn0) ?_
  intro p e s m below meth c T0 hx hby hml hown hnm hret hlk hZ X0 e0
  have hown : s.vm.findClass "java/lang/StringUTF16" = some m.cls := hown
  have hml : c.maxLocals = 2 := hml
  have hret : meth.sig.returnType = some .byte := hret
  refine o_entry (o_ef3 m r) ?_
  refine o_iloadN X0 hx (hb hby d_jdk_52_method_15_code_0) (v := (2 : Int32)) rfl (n := 1) rfl ?_
  refine o_aloadN X0 hx (hb hby d_jdk_52_method_15_code_1) (v := (.ref r)) rfl rfl (n := 2) rfl ?_
  refine o_arraylength X0 hx hZ e0 pV_r (hb hby d_jdk_52_method_15_code_2) (n := 3) rfl ?_
  refine o_isub X0 hx (hb hby d_jdk_52_method_15_code_3) (v := (0 : Int32)) (by decide) (n := 4) rfl ?_
  refine o_bipush X0 hx (hb hby d_jdk_52_method_15_code_4) (v := (31 : Int32)) rfl (n := 6) rfl ?_
  refine o_iushr X0 hx (hb hby d_jdk_52_method_15_code_6) (v := (0 : Int32)) (by decide) (n := 7) rfl ?_
  refine o_i2b X0 hx (hb hby d_jdk_52_method_15_code_7) (v := (0 : Int32)) (by decide) (n := 8) rfl ?_
  exact o_nreturn X0 hx hret hlk (t := .byte) (by simp) (hb hby d_jdk_52_method_15_code_8) (by decide) (by decide) e0 ⟨rfl, rfl, rfl⟩
theorem d_jdk_42_method_149_code_0 : decode jdk_42_method_149_code 0 = .ok (.aload_n 0, 1) := by decide +kernel
theorem d_jdk_42_method_149_code_1 : decode jdk_42_method_149_code 1 = .ok (.invokespecial 1, 3) := by decide +kernel
theorem d_jdk_42_method_149_code_4 : decode jdk_42_method_149_code 4 = .ok (.iload_n 3, 1) := by decide +kernel
theorem d_jdk_42_method_149_code_5 : decode jdk_42_method_149_code 5 = .ok (.ifCond .ne 22, 3) := by decide +kernel
theorem d_jdk_42_method_149_code_27 : decode jdk_42_method_149_code 27 = .ok (.getstatic 38, 3) := by decide +kernel
theorem d_jdk_42_method_149_code_30 : decode jdk_42_method_149_code 30 = .ok (.ifCond .eq 28, 3) := by decide +kernel
theorem d_jdk_42_method_149_code_33 : decode jdk_42_method_149_code 33 = .ok (.aload_n 1, 1) := by decide +kernel
theorem d_jdk_42_method_149_code_34 : decode jdk_42_method_149_code 34 = .ok (.iload_n 2, 1) := by decide +kernel
theorem d_jdk_42_method_149_code_35 : decode jdk_42_method_149_code 35 = .ok (.iload_n 3, 1) := by decide +kernel
theorem d_jdk_42_method_149_code_36 : decode jdk_42_method_149_code 36 = .ok (.invokestatic 177, 3) := by decide +kernel
theorem o_pd1 : parseMethodDescriptor "([CII)[B" = some ⟨[(.array .char), .int, .int], some (.array .byte)⟩ := by decide +kernel
theorem d_jdk_42_method_149_code_39 : decode jdk_42_method_149_code 39 = .ok (.astore 5, 2) := by decide +kernel
theorem d_jdk_42_method_149_code_41 : decode jdk_42_method_149_code 41 = .ok (.aload_n 0, 1) := by decide +kernel
theorem d_jdk_42_method_149_code_42 : decode jdk_42_method_149_code 42 = .ok (.aload 5, 2) := by decide +kernel
theorem d_jdk_42_method_149_code_44 : decode jdk_42_method_149_code 44 = .ok (.iload_n 3, 1) := by decide +kernel
theorem d_jdk_42_method_149_code_45 : decode jdk_42_method_149_code 45 = .ok (.invokestatic 47, 3) := by decide +kernel
theorem o_pd2 : parseMethodDescriptor "([BI)B" = some ⟨[(.array .byte), .int], some .byte⟩ := by decide +kernel
theorem d_jdk_42_method_149_code_48 : decode jdk_42_method_149_code 48 = .ok (.putfield 15, 3) := by decide +kernel
theorem d_jdk_42_method_149_code_51 : decode jdk_42_method_149_code 51 = .ok (.aload_n 0, 1) := by decide +kernel
theorem d_jdk_42_method_149_code_52 : decode jdk_42_method_149_code 52 = .ok (.aload 5, 2) := by decide +kernel
theorem d_jdk_42_method_149_code_54 : decode jdk_42_method_149_code 54 = .ok (.putfield 9, 3) := by decide +kernel
theorem d_jdk_42_method_149_code_57 : decode jdk_42_method_149_code 57 = .ok (.return_, 1) := by decide +kernel
theorem o_ef4 (m : MethodId) (a1 : Addr) (g : Addr) : entryFrame m #[(.ref a1), (.ref g), (.int (0 : Int32)), (.int (2 : Int32)), .null] 6 = mkF m 0 #[.val (.ref a1), .val (.ref g), .val (.int (0 : Int32)), .val (.int (2 : Int32)), .val .null, .unset] [] := by first | (simp [entryFrame, mkF, argsToLocals, Value.category]; done) | rfl
theorem o_pn1 : plainName "java/lang/String" = true := by first | (simp [plainName, overriddenIn]; done) | decide +kernel
set_option maxRecDepth 65536 in
set_option maxHeartbeats 40000000 in
theorem c_in4 (l : Launch) (Z : State) (a0 : Array Value) (hw : ∀ d ∈ tables_1, d.before a0 Z = true) (a1 : Addr) (g : Addr) (kg : ClassId) (c0 : Int32) (c1 : Int32) (cs : Int32) (h0 : Heap) (n0 : Nat) (Z0 : n0 ≤ h0.size) (pg_a1 : n0 ≤ a1) (pE_a1 : Exa Z h0 a1 "java/lang/String") (pF_a1_coder : Fld Z h0 a1 "java/lang/String" "coder" "B" (.int (0 : Int32))) (pF_a1_value : Fld Z h0 a1 "java/lang/String" "value" "[B" .null) (pV_g : Arv Z h0 g kg .char (2 : Int32) [(.int c0), (.int c1)] (.int (0 : Int32))) (pne_a1_g : a1 ≠ g) (pS_COMPACT_STRINGS : Sta Z h0 "java/lang/String" "COMPACT_STRINGS" "Z" (.int cs)) (hq0 : ¬ (255 : Int32) < c0) (hq1 : ¬ (255 : Int32) < c1) (hcs : ¬ cs = (0 : Int32)) :
    Does l Z (⟨"java/lang/String", "<init>", "([CIILjava/lang/Void;)V"⟩ : MethodName) jdk_42_method_149_code 6 none [] ({ frames := 2, cells := 1, slots := 2, locals := 35 } : Room) #[(.ref a1), (.ref g), (.int (0 : Int32)), (.int (2 : Int32)), .null] h0 (fun v h L => ∃ (n1 : Addr) (kn : ClassId), v = none ∧ Fr n0 L ∧ Keep h0 h [a1] ∧ h0.size ≤ n1 ∧ Exa Z h a1 "java/lang/String" ∧ Fld Z h a1 "java/lang/String" "coder" "B" (.int (0 : Int32)) ∧ Fld Z h a1 "java/lang/String" "value" "[B" (.ref n1) ∧ Arv Z h n1 kn .byte (2 : Int32) [(.int c0.toInt8.toInt32), (.int c1.toInt8.toInt32)] (.int (0 : Int32))) := by
  refine Does.of (plainFor_of_name o_pn1) ?_
  intro p e s m below meth c T0 hx hby hml hown hnm hret hlk hZ X0 e0
  have hown : s.vm.findClass "java/lang/String" = some m.cls := hown
  have hml : c.maxLocals = 6 := hml
  have hret : meth.sig.returnType = none := hret
  refine o_entry (o_ef4 m a1 g) ?_
  have N0 := Fr.nil n0
  refine o_aloadN X0 hx (hb hby d_jdk_42_method_149_code_0) (v := (.ref a1)) rfl rfl (n := 1) rfl ?_
  refine o_initO X0 hx hZ hown (hw _ (List.mem_of_getElem? (i := 11) rfl)) (hw _ (List.mem_of_getElem? (i := 12) rfl)) (hw _ (List.mem_of_getElem? (i := 13) rfl)) e0 (by rw [hml]; rfl) (hb hby d_jdk_42_method_149_code_1) (by decide) 0 (Nat.le_of_eq rfl) (by decide) (n := 4) rfl ?_
  intro T1 X1 e1
  refine o_iloadN X1 hx (hb hby d_jdk_42_method_149_code_4) (v := (2 : Int32)) rfl (n := 5) rfl ?_
  refine o_ifY X1 hx (hb hby d_jdk_42_method_149_code_5) (XT.i0_ne_t (by decide)) (by decide) (n := 27) (by decide) ?_
  refine o_getstatic X1 hx hZ hown (host := "") (Or.inl (hw _ (List.mem_of_getElem? (i := 14) rfl))) Via.refl e1 pS_COMPACT_STRINGS (hb hby d_jdk_42_method_149_code_27) (n := 30) rfl ?_
  intro T2 X2 e2
  refine o_ifN X2 hx (hb hby d_jdk_42_method_149_code_30) (XT.i0_eq_f hcs) (n := 33) rfl ?_
  refine o_aloadN X2 hx (hb hby d_jdk_42_method_149_code_33) (v := (.ref g)) rfl rfl (n := 34) rfl ?_
  refine o_iloadN X2 hx (hb hby d_jdk_42_method_149_code_34) (v := (0 : Int32)) rfl (n := 35) rfl ?_
  refine o_iloadN X2 hx (hb hby d_jdk_42_method_149_code_35) (v := (2 : Int32)) rfl (n := 36) rfl ?_
  refine o_callS X2 hx hZ hown (hw _ (List.mem_of_getElem? (i := 15) rfl)) (hw _ (List.mem_of_getElem? (i := 16) rfl)) (hw _ (List.mem_of_getElem? (i := 17) rfl)) (hw _ (List.mem_of_getElem? (i := 18) rfl)) (by decide) e2 (argsL := [(.ref g), (.int (0 : Int32)), (.int (2 : Int32))]) (rest := []) (c_cp2 l Z a0 hw g kg c0 c1 h0 n0 Z0 pV_g hq0 hq1) 0 (by decide) (by decide) (by decide) (by decide) (by rw [hml]; rfl) (lenOf o_pd1 rfl) rfl (Nat.le_of_eq rfl) (hb hby d_jdk_42_method_149_code_36) (n := 39) rfl ?_
  intro v3 T3 L3 X3 q3
  obtain ⟨n1_3, kn_3, rfl, Nq3, K3, sq3_n1, o3_0⟩ := q3
  have N4 := Fr.app N0 Nq3
  have ne5 : a1 ≠ n1_3 := Nat.ne_of_lt (Nat.lt_of_lt_of_le pE_a1.lt sq3_n1)
  have ne6 : g ≠ n1_3 := Nat.ne_of_lt (Nat.lt_of_lt_of_le pV_g.lt sq3_n1)
  have gg3_n1 : n0 ≤ n1_3 := Nat.le_trans Z0 sq3_n1
  have sz3_n1 : h0.size ≤ n1_3 := Nat.le_trans (Keep.refl h0 [a1]).1 sq3_n1
  have f7 := pE_a1.keep K3
  have f8 := pF_a1_coder.keep K3 nin0
  have f9 := pF_a1_value.keep K3 nin0
  have f10 := pV_g.keep K3 nin0
  have f11 := o_sta_keep pS_COMPACT_STRINGS K3 all0
  have zz3 : n0 ≤ T3.heap.size := Nat.le_trans Z0 K3.1
  have K12 : Keep h0 T3.heap [a1] := (Keep.refl h0 [a1]).trans K3 all0
  show Goes _ _ p e below s _ _ _ (T3.setTop (mkF m 39 #[.val (.ref a1), .val (.ref g), .val (.int (0 : Int32)), .val (.int (2 : Int32)), .val .null, .unset] [(.ref n1_3)]))
  refine o_astore X3 hx (hb hby d_jdk_42_method_149_code_39) rfl (Ls' := #[.val (.ref a1), .val (.ref g), .val (.int (0 : Int32)), .val (.int (2 : Int32)), .val .null, .val (.ref n1_3)]) rfl (n := 41) rfl ?_
  refine o_aloadN X3 hx (hb hby d_jdk_42_method_149_code_41) (v := (.ref a1)) rfl rfl (n := 42) rfl ?_
  refine o_aload X3 hx (hb hby d_jdk_42_method_149_code_42) (v := (.ref n1_3)) rfl rfl (n := 44) rfl ?_
  refine o_iloadN X3 hx (hb hby d_jdk_42_method_149_code_44) (v := (2 : Int32)) rfl (n := 45) rfl ?_
  refine o_callS X3 hx hZ hown (hw _ (List.mem_of_getElem? (i := 23) rfl)) (hw _ (List.mem_of_getElem? (i := 24) rfl)) (hw _ (List.mem_of_getElem? (i := 17) rfl)) (hw _ (List.mem_of_getElem? (i := 25) rfl)) (by decide) (rfl : T3.heap = T3.heap) (argsL := [(.ref n1_3), (.int (2 : Int32))]) (rest := [(.ref a1)]) (c_cfa l Z a0 hw n1_3 kn_3 c0.toInt8.toInt32 c1.toInt8.toInt32 T3.heap o3_0) 1 (by decide) (by decide) (by decide) (by decide) (by rw [hml]; rfl) (lenOf o_pd2 rfl) rfl (Nat.le_of_eq rfl) (hb hby d_jdk_42_method_149_code_45) (n := 48) rfl ?_
  intro v13 T13 L13 X13 q13
  obtain ⟨rfl, e13, rfl⟩ := q13
  have N14 := Fr.app N4 (Fr.nil n0)
  show Goes _ _ p e below s _ _ _ (T13.setTop (mkF m 48 #[.val (.ref a1), .val (.ref g), .val (.int (0 : Int32)), .val (.int (2 : Int32)), .val .null, .val (.ref n1_3)] [(.int (0 : Int32)), (.ref a1)]))
  refine o_putfield X13 hx hZ hown (host := "") (Or.inl (hw _ (List.mem_of_getElem? (i := 26) rfl))) Via.refl e13 f8 f7 (Or.inr ⟨(hw _ (List.mem_of_getElem? (i := 27) rfl)), rfl, hnm⟩) (hw _ (List.mem_of_getElem? (i := 2) rfl)) (ty := .byte) (by decide) rfl rfl (hb hby d_jdk_42_method_149_code_48) (n := 51) rfl ?_
  intro T15 h15 X15 e15 W15 F15 E_15
  have f16 := f9.other W15 (Or.inr (slot_ne (Or.inr (hw _ (List.mem_of_getElem? (i := 29) rfl))) (Or.inr (hw _ (List.mem_of_getElem? (i := 27) rfl))) (by decide) (t := (.array .byte)) (t' := .byte) (by decide) (by decide)))
  have f17 := f10.other W15 (Ne.symm pne_a1_g)
  have f18 := f11.wr W15
  have f19 := o3_0.other W15 (Ne.symm ne5)
  have zz15 : n0 ≤ h15.size := Nat.le_trans zz3 (Nat.le_of_eq W15.size.symm)
  have N20 := Fr.snoc X15 N14 pg_a1
  have K21 : Keep h0 h15 [a1] := K12.wr W15 (Or.inl (List.mem_of_getElem? (i := 0) rfl))
  refine o_aloadN X15 hx (hb hby d_jdk_42_method_149_code_51) (v := (.ref a1)) rfl rfl (n := 52) rfl ?_
  refine o_aload X15 hx (hb hby d_jdk_42_method_149_code_52) (v := (.ref n1_3)) rfl rfl (n := 54) rfl ?_
  refine o_putfield X15 hx hZ hown (host := "") (Or.inl (hw _ (List.mem_of_getElem? (i := 28) rfl))) Via.refl e15 f16 E_15 (Or.inr ⟨(hw _ (List.mem_of_getElem? (i := 29) rfl)), rfl, hnm⟩) (hw _ (List.mem_of_getElem? (i := 2) rfl)) (ty := (.array .byte)) (by decide) rfl rfl (hb hby d_jdk_42_method_149_code_54) (n := 57) rfl ?_
  intro T22 h22 X22 e22 W22 F22 E_22
  have f23 := F15.other W22 (Or.inr (slot_ne (Or.inr (hw _ (List.mem_of_getElem? (i := 27) rfl))) (Or.inr (hw _ (List.mem_of_getElem? (i := 29) rfl))) (by decide) (t := .byte) (t' := (.array .byte)) (by decide) (by decide)))
  have f24 := f17.other W22 (Ne.symm pne_a1_g)
  have f25 := f18.wr W22
  have f26 := f19.other W22 (Ne.symm ne5)
  have zz22 : n0 ≤ h22.size := Nat.le_trans zz15 (Nat.le_of_eq W22.size.symm)
  have N27 := Fr.snoc X22 N20 pg_a1
  have K28 : Keep h0 h22 [a1] := K21.wr W22 (Or.inl (List.mem_of_getElem? (i := 0) rfl))
  exact o_return X22 hx hret hlk (hb hby d_jdk_42_method_149_code_57) (by decide) (by decide) e22 ⟨n1_3, kn_3, rfl, N27, K28, sz3_n1, E_22, f23, F22, f26⟩
theorem d_jdk_42_method_3_code_0 : decode jdk_42_method_3_code 0 = .ok (.aload_n 0, 1) := by decide +kernel
theorem d_jdk_42_method_3_code_1 : decode jdk_42_method_3_code 1 = .ok (.aload_n 1, 1) := by decide +kernel
theorem d_jdk_42_method_3_code_2 : decode jdk_42_method_3_code 2 = .ok (.iconst 0, 1) := by decide +kernel
theorem d_jdk_42_method_3_code_3 : decode jdk_42_method_3_code 3 = .ok (.aload_n 1, 1) := by decide +kernel
theorem d_jdk_42_method_3_code_4 : decode jdk_42_method_3_code 4 = .ok (.arraylength, 1) := by decide +kernel
theorem d_jdk_42_method_3_code_5 : decode jdk_42_method_3_code 5 = .ok (.aconst_null, 1) := by decide +kernel
theorem d_jdk_42_method_3_code_6 : decode jdk_42_method_3_code 6 = .ok (.invokespecial 27, 3) := by decide +kernel
theorem o_pd3 : parseMethodDescriptor "([CIILjava/lang/Void;)V" = some ⟨[(.array .char), .int, .int, (.object "java/lang/Void")], none⟩ := by decide +kernel
theorem d_jdk_42_method_3_code_9 : decode jdk_42_method_3_code 9 = .ok (.return_, 1) := by decide +kernel
theorem o_ef5 (m : MethodId) (a1 : Addr) (g : Addr) : entryFrame m #[(.ref a1), (.ref g)] 2 = mkF m 0 #[.val (.ref a1), .val (.ref g)] [] := by first | (simp [entryFrame, mkF, argsToLocals, Value.category]; done) | rfl
set_option maxRecDepth 65536 in
set_option maxHeartbeats 40000000 in
theorem c_in1 (l : Launch) (Z : State) (a0 : Array Value) (hw : ∀ d ∈ tables_1, d.before a0 Z = true) (a1 : Addr) (g : Addr) (kg : ClassId) (c0 : Int32) (c1 : Int32) (cs : Int32) (h0 : Heap) (n0 : Nat) (Z0 : n0 ≤ h0.size) (pg_a1 : n0 ≤ a1) (pE_a1 : Exa Z h0 a1 "java/lang/String") (pF_a1_coder : Fld Z h0 a1 "java/lang/String" "coder" "B" (.int (0 : Int32))) (pF_a1_value : Fld Z h0 a1 "java/lang/String" "value" "[B" .null) (pV_g : Arv Z h0 g kg .char (2 : Int32) [(.int c0), (.int c1)] (.int (0 : Int32))) (pne_a1_g : a1 ≠ g) (pS_COMPACT_STRINGS : Sta Z h0 "java/lang/String" "COMPACT_STRINGS" "Z" (.int cs)) (hq0 : ¬ (255 : Int32) < c0) (hq1 : ¬ (255 : Int32) < c1) (hcs : ¬ cs = (0 : Int32)) :
    Does l Z (⟨"java/lang/String", "<init>", "([C)V"⟩ : MethodName) jdk_42_method_3_code 2 none [] ({ frames := 3, cells := 1, slots := 2, locals := 52 } : Room) #[(.ref a1), (.ref g)] h0 (fun v h L => ∃ (n1 : Addr) (kn : ClassId), v = none ∧ Fr n0 L ∧ Keep h0 h [a1] ∧ h0.size ≤ n1 ∧ Exa Z h a1 "java/lang/String" ∧ Fld Z h a1 "java/lang/String" "coder" "B" (.int (0 : Int32)) ∧ Fld Z h a1 "java/lang/String" "value" "[B" (.ref n1) ∧ Arv Z h n1 kn .byte (2 : Int32) [(.int c0.toInt8.toInt32), (.int c1.toInt8.toInt32)] (.int (0 : Int32))) := by
  refine Does.of (plainFor_of_name o_pn1) ?_
  intro p e s m below meth c T0 hx hby hml hown hnm hret hlk hZ X0 e0
  have hown : s.vm.findClass "java/lang/String" = some m.cls := hown
  have hml : c.maxLocals = 2 := hml
  have hret : meth.sig.returnType = none := hret
  refine o_entry (o_ef5 m a1 g) ?_
  have N0 := Fr.nil n0
  refine o_aloadN X0 hx (hb hby d_jdk_42_method_3_code_0) (v := (.ref a1)) rfl rfl (n := 1) rfl ?_
  refine o_aloadN X0 hx (hb hby d_jdk_42_method_3_code_1) (v := (.ref g)) rfl rfl (n := 2) rfl ?_
  refine o_iconst X0 hx (hb hby d_jdk_42_method_3_code_2) (v := (0 : Int32)) rfl (n := 3) rfl ?_
  refine o_aloadN X0 hx (hb hby d_jdk_42_method_3_code_3) (v := (.ref g)) rfl rfl (n := 4) rfl ?_
  refine o_arraylength X0 hx hZ e0 pV_g (hb hby d_jdk_42_method_3_code_4) (n := 5) rfl ?_
  refine o_aconst_null X0 hx (hb hby d_jdk_42_method_3_code_5) (n := 6) rfl ?_
  refine o_callN X0 hx hZ rfl hown (hw _ (List.mem_of_getElem? (i := 7) rfl)) (hw _ (List.mem_of_getElem? (i := 8) rfl)) (hw _ (List.mem_of_getElem? (i := 3) rfl)) (hw _ (List.mem_of_getElem? (i := 10) rfl)) (by decide) e0 (a := a1) (argsL := [(.ref g), (.int (0 : Int32)), (.int (2 : Int32)), .null]) (rest := []) (c_in4 l Z a0 hw a1 g kg c0 c1 cs h0 n0 Z0 pg_a1 pE_a1 pF_a1_coder pF_a1_value pV_g pne_a1_g pS_COMPACT_STRINGS hq0 hq1 hcs) 0 (by decide) (by decide) (by decide) (by decide) (by rw [hml]; rfl) (lenOf o_pd3 rfl) rfl (Nat.le_of_eq rfl) (hb hby d_jdk_42_method_3_code_6) (n := 9) rfl ?_
  intro v1 T1 L1 X1 q1
  obtain ⟨n1_1, kn_1, rfl, Nq1, K1, sq1_n1, o1_0, o1_1, o1_2, o1_3⟩ := q1
  have N2 := Fr.app N0 Nq1
  have ne3 : a1 ≠ n1_1 := Nat.ne_of_lt (Nat.lt_of_lt_of_le pE_a1.lt sq1_n1)
  have ne4 : g ≠ n1_1 := Nat.ne_of_lt (Nat.lt_of_lt_of_le pV_g.lt sq1_n1)
  have gg1_n1 : n0 ≤ n1_1 := Nat.le_trans Z0 sq1_n1
  have sz1_n1 : h0.size ≤ n1_1 := Nat.le_trans (Keep.refl h0 [a1]).1 sq1_n1
  have f5 := pE_a1.keep K1
  have f8 := pV_g.keep K1 (ninS (Ne.symm pne_a1_g) nin0)
  have f9 := o_sta_keep pS_COMPACT_STRINGS K1 (allS (P := fun a => ∀ cl : Cell, h0[a]? = some cl → cl.vm.isStatics = false) (o_exa_ns pE_a1) all0)
  have zz1 : n0 ≤ T1.heap.size := Nat.le_trans Z0 K1.1
  have K10 : Keep h0 T1.heap [a1] := (Keep.refl h0 [a1]).trans K1 (allS (P := fun x => x ∈ [a1] ∨ h0.size ≤ x) (Or.inl (List.mem_of_getElem? (i := 0) rfl)) all0)
  show Goes _ _ p e below s _ _ _ (T1.setTop (mkF m 9 #[.val (.ref a1), .val (.ref g)] []))
  exact o_return X1 hx hret hlk (hb hby d_jdk_42_method_3_code_9) (by decide) (by decide) (rfl : T1.heap = T1.heap) ⟨n1_1, kn_1, rfl, N2, K10, sz1_n1, o1_0, o1_1, o1_2, o1_3⟩
theorem d_jdk_43_method_3_code_0 : decode jdk_43_method_3_code 0 = .ok (.iload_n 0, 1) := by decide +kernel
theorem d_jdk_43_method_3_code_1 : decode jdk_43_method_3_code 1 = .ok (.sipush 255, 3) := by decide +kernel
theorem d_jdk_43_method_3_code_4 : decode jdk_43_method_3_code 4 = .ok (.if_icmp .gt 7, 3) := by decide +kernel
theorem d_jdk_43_method_3_code_7 : decode jdk_43_method_3_code 7 = .ok (.iconst 1, 1) := by decide +kernel
theorem d_jdk_43_method_3_code_8 : decode jdk_43_method_3_code 8 = .ok (.goto 4, 3) := by decide +kernel
theorem d_jdk_43_method_3_code_12 : decode jdk_43_method_3_code 12 = .ok (.ireturn, 1) := by decide +kernel
theorem o_ef6 (m : MethodId) (c0 : Int32) : entryFrame m #[(.int c0)] 1 = mkF m 0 #[.val (.int c0)] [] := by first | (simp [entryFrame, mkF, argsToLocals, Value.category]; done) | rfl
theorem o_pn2 : plainName "java/lang/StringLatin1" = true := by first | (simp [plainName, overriddenIn]; done) | decide +kernel
set_option maxRecDepth 65536 in
set_option maxHeartbeats 40000000 in
theorem c_can (l : Launch) (Z : State) (a0 : Array Value) (hw : ∀ d ∈ tables_1, d.before a0 Z = true) (c0 : Int32) (h0 : Heap) (hq0 : ¬ (255 : Int32) < c0) :
    Does l Z (⟨"java/lang/StringLatin1", "canEncode", "(C)Z"⟩ : MethodName) jdk_43_method_3_code 1 (some .boolean) [] ({ frames := 0, cells := 0, slots := 0, locals := 0 } : Room) #[(.int c0)] h0 (Pur h0 (.int 1)) := by
  refine Does.of (plainFor_of_name o_pn2) ?_
  intro p e s m below meth c T0 hx hby hml hown hnm hret hlk hZ X0 e0
  have hown : s.vm.findClass "java/lang/StringLatin1" = some m.cls := hown
  have hml : c.maxLocals = 1 := hml
  have hret : meth.sig.returnType = some .boolean := hret
  refine o_entry (o_ef6 m c0) ?_
  refine o_iloadN X0 hx (hb hby d_jdk_43_method_3_code_0) (v := c0) rfl (n := 1) rfl ?_
  refine o_sipush X0 hx (hb hby d_jdk_43_method_3_code_1) (v := (255 : Int32)) rfl (n := 4) rfl ?_
  refine o_icmpN X0 hx (hb hby d_jdk_43_method_3_code_4) (XT.ii_gt_f hq0) (n := 7) rfl ?_
  refine o_iconst X0 hx (hb hby d_jdk_43_method_3_code_7) (v := (1 : Int32)) rfl (n := 8) rfl ?_
  refine o_goto X0 hx (hb hby d_jdk_43_method_3_code_8) (by decide) (n := 12) (by decide) ?_
  exact o_nreturn X0 hx hret hlk (t := .boolean) (by simp) (hb hby d_jdk_43_method_3_code_12) (by decide) (by decide) e0 ⟨congrArg (fun q => some (Value.int q)) o_nz1, rfl, rfl⟩
theorem d_jdk_43_method_46_code_0 : decode jdk_43_method_46_code 0 = .ok (.iconst 1, 1) := by decide +kernel
theorem d_jdk_43_method_46_code_1 : decode jdk_43_method_46_code 1 = .ok (.newarray .byte, 2) := by decide +kernel
theorem d_jdk_43_method_46_code_3 : decode jdk_43_method_46_code 3 = .ok (.dup, 1) := by decide +kernel
theorem d_jdk_43_method_46_code_4 : decode jdk_43_method_46_code 4 = .ok (.iconst 0, 1) := by decide +kernel
theorem d_jdk_43_method_46_code_5 : decode jdk_43_method_46_code 5 = .ok (.iload_n 0, 1) := by decide +kernel
theorem d_jdk_43_method_46_code_6 : decode jdk_43_method_46_code 6 = .ok (.i2b, 1) := by decide +kernel
theorem d_jdk_43_method_46_code_7 : decode jdk_43_method_46_code 7 = .ok (.bastore, 1) := by decide +kernel
theorem d_jdk_43_method_46_code_8 : decode jdk_43_method_46_code 8 = .ok (.areturn, 1) := by decide +kernel
theorem o_ef7 (m : MethodId) (c0 : Int32) : entryFrame m #[(.int c0)] 1 = mkF m 0 #[.val (.int c0)] [] := by first | (simp [entryFrame, mkF, argsToLocals, Value.category]; done) | rfl
set_option maxRecDepth 65536 in
set_option maxHeartbeats 40000000 in
theorem c_tob (l : Launch) (Z : State) (a0 : Array Value) (hw : ∀ d ∈ tables_1, d.before a0 Z = true) (c0 : Int32) (h0 : Heap) (n0 : Nat) (Z0 : n0 ≤ h0.size) :
    Does l Z (⟨"java/lang/StringLatin1", "toBytes", "(C)[B"⟩ : MethodName) jdk_43_method_46_code 1 (some (.array .byte)) [] ({ frames := 0, cells := 1, slots := 1, locals := 0 } : Room) #[(.int c0)] h0 (fun v h L => ∃ (n1 : Addr) (kn : ClassId), v = some (.ref n1) ∧ Fr n0 L ∧ Keep h0 h [] ∧ h0.size ≤ n1 ∧ Arv Z h n1 kn .byte (1 : Int32) [(.int c0.toInt8.toInt32)] (.int (0 : Int32))) := by
  refine Does.of (plainFor_of_name o_pn2) ?_
  intro p e s m below meth c T0 hx hby hml hown hnm hret hlk hZ X0 e0
  have hown : s.vm.findClass "java/lang/StringLatin1" = some m.cls := hown
  have hml : c.maxLocals = 1 := hml
  have hret : meth.sig.returnType = some (.array .byte) := hret
  refine o_entry (o_ef7 m c0) ?_
  have N0 := Fr.nil n0
  refine o_iconst X0 hx (hb hby d_jdk_43_method_46_code_0) (v := (1 : Int32)) rfl (n := 1) rfl ?_
  refine o_newarray X0 hx hZ (aty := .byte) (hw _ (List.mem_of_getElem? (i := 19) rfl)) e0 (hb hby d_jdk_43_method_46_code_1) (by decide) 1 (by decide) (by decide) (by decide) (by decide) (n := 3) rfl ?_
  intro T1 h1 b1 k1 X1 e1 g1 E1 V1
  have gg1 : n0 ≤ b1 := Nat.le_trans Z0 (Nat.le_of_eq g1.symm)
  have zz1 : n0 ≤ h1.size := Nat.le_trans Z0 E1.1
  have sz1 : h0.size ≤ b1 := Nat.le_trans (Keep.refl h0 []).1 (Nat.le_of_eq g1.symm)
  have K2 : Keep h0 h1 [] := (Keep.refl h0 []).ext E1
  have f3 : Arv Z h1 b1 k1 .byte (1 : Int32) [(.int (0 : Int32))] (.int (0 : Int32)) := V1.pad (pad_rep [] (.int (0 : Int32)) 1)
  refine o_dup X1 hx (hb hby d_jdk_43_method_46_code_3) rfl (n := 4) rfl ?_
  refine o_iconst X1 hx (hb hby d_jdk_43_method_46_code_4) (v := (0 : Int32)) rfl (n := 5) rfl ?_
  refine o_iloadN X1 hx (hb hby d_jdk_43_method_46_code_5) (v := c0) rfl (n := 6) rfl ?_
  refine o_i2b X1 hx (hb hby d_jdk_43_method_46_code_6) (v := c0.toInt8.toInt32) rfl (n := 7) rfl ?_
  refine o_bastore X1 hx hZ e1 f3 (0) (by decide) (by decide) (Nat.le_of_ble_eq_true rfl) (w := (.int c0.toInt8.toInt32)) (congrArg Value.int (o_nar8 _)) (vs' := [(.int c0.toInt8.toInt32)]) rfl (hb hby d_jdk_43_method_46_code_7) (n := 8) rfl ?_
  intro T4 h4 X4 e4 W4 V4
  have zz4 : n0 ≤ h4.size := Nat.le_trans zz1 (Nat.le_of_eq W4.size.symm)
  have N5 := Fr.snoc X4 N0 gg1
  have K6 : Keep h0 h4 [] := K2.wr W4 (Or.inr sz1)
  exact o_areturn X4 hx hret hlk rfl rfl (hb hby d_jdk_43_method_46_code_8) (by decide) (by decide) e4 ⟨b1, k1, rfl, N5, K6, sz1, V4⟩
theorem d_jdk_42_method_151_code_0 : decode jdk_42_method_151_code 0 = .ok (.aload_n 0, 1) := by decide +kernel
theorem d_jdk_42_method_151_code_1 : decode jdk_42_method_151_code 1 = .ok (.invokespecial 1, 3) := by decide +kernel
theorem d_jdk_42_method_151_code_4 : decode jdk_42_method_151_code 4 = .ok (.aload_n 0, 1) := by decide +kernel
theorem d_jdk_42_method_151_code_5 : decode jdk_42_method_151_code 5 = .ok (.aload_n 1, 1) := by decide +kernel
theorem d_jdk_42_method_151_code_6 : decode jdk_42_method_151_code 6 = .ok (.putfield 9, 3) := by decide +kernel
theorem d_jdk_42_method_151_code_9 : decode jdk_42_method_151_code 9 = .ok (.aload_n 0, 1) := by decide +kernel
theorem d_jdk_42_method_151_code_10 : decode jdk_42_method_151_code 10 = .ok (.iload_n 2, 1) := by decide +kernel
theorem d_jdk_42_method_151_code_11 : decode jdk_42_method_151_code 11 = .ok (.putfield 15, 3) := by decide +kernel
theorem d_jdk_42_method_151_code_14 : decode jdk_42_method_151_code 14 = .ok (.return_, 1) := by decide +kernel
theorem o_ef8 (m : MethodId) (a1 : Addr) (b : Addr) : entryFrame m #[(.ref a1), (.ref b), (.int (0 : Int32))] 3 = mkF m 0 #[.val (.ref a1), .val (.ref b), .val (.int (0 : Int32))] [] := by first | (simp [entryFrame, mkF, argsToLocals, Value.category]; done) | rfl
set_option maxRecDepth 65536 in
set_option maxHeartbeats 40000000 in
theorem c_inb (l : Launch) (Z : State) (a0 : Array Value) (hw : ∀ d ∈ tables_1, d.before a0 Z = true) (a1 : Addr) (b : Addr) (h0 : Heap) (n0 : Nat) (Z0 : n0 ≤ h0.size) (pg_a1 : n0 ≤ a1) (pE_a1 : Exa Z h0 a1 "java/lang/String") (pF_a1_coder : Fld Z h0 a1 "java/lang/String" "coder" "B" (.int (0 : Int32))) (pF_a1_value : Fld Z h0 a1 "java/lang/String" "value" "[B" .null) :
    Does l Z (⟨"java/lang/String", "<init>", "([BB)V"⟩ : MethodName) jdk_42_method_151_code 3 none [] ({ frames := 1, cells := 0, slots := 0, locals := 12 } : Room) #[(.ref a1), (.ref b), (.int (0 : Int32))] h0 (fun v h L => v = none ∧ Fr n0 L ∧ Keep h0 h [a1] ∧ Exa Z h a1 "java/lang/String" ∧ Fld Z h a1 "java/lang/String" "coder" "B" (.int (0 : Int32)) ∧ Fld Z h a1 "java/lang/String" "value" "[B" (.ref b)) := by
  refine Does.of (plainFor_of_name o_pn1) ?_
  intro p e s m below meth c T0 hx hby hml hown hnm hret hlk hZ X0 e0
  have hown : s.vm.findClass "java/lang/String" = some m.cls := hown
  have hml : c.maxLocals = 3 := hml
  have hret : meth.sig.returnType = none := hret
  refine o_entry (o_ef8 m a1 b) ?_
  have N0 := Fr.nil n0
  refine o_aloadN X0 hx (hb hby d_jdk_42_method_151_code_0) (v := (.ref a1)) rfl rfl (n := 1) rfl ?_
  refine o_initO X0 hx hZ hown (hw _ (List.mem_of_getElem? (i := 11) rfl)) (hw _ (List.mem_of_getElem? (i := 12) rfl)) (hw _ (List.mem_of_getElem? (i := 13) rfl)) e0 (by rw [hml]; rfl) (hb hby d_jdk_42_method_151_code_1) (by decide) 0 (Nat.le_of_eq rfl) (by decide) (n := 4) rfl ?_
  intro T1 X1 e1
  refine o_aloadN X1 hx (hb hby d_jdk_42_method_151_code_4) (v := (.ref a1)) rfl rfl (n := 5) rfl ?_
  refine o_aloadN X1 hx (hb hby d_jdk_42_method_151_code_5) (v := (.ref b)) rfl rfl (n := 6) rfl ?_
  refine o_putfield X1 hx hZ hown (host := "") (Or.inl (hw _ (List.mem_of_getElem? (i := 28) rfl))) Via.refl e1 pF_a1_value pE_a1 (Or.inr ⟨(hw _ (List.mem_of_getElem? (i := 29) rfl)), rfl, hnm⟩) (hw _ (List.mem_of_getElem? (i := 2) rfl)) (ty := (.array .byte)) (by decide) rfl rfl (hb hby d_jdk_42_method_151_code_6) (n := 9) rfl ?_
  intro T2 h2 X2 e2 W2 F2 E_2
  have f3 := pF_a1_coder.other W2 (Or.inr (slot_ne (Or.inr (hw _ (List.mem_of_getElem? (i := 27) rfl))) (Or.inr (hw _ (List.mem_of_getElem? (i := 29) rfl))) (by decide) (t := .byte) (t' := (.array .byte)) (by decide) (by decide)))
  have zz2 : n0 ≤ h2.size := Nat.le_trans Z0 (Nat.le_of_eq W2.size.symm)
  have N4 := Fr.snoc X2 N0 pg_a1
  have K5 : Keep h0 h2 [a1] := (Keep.refl h0 [a1]).wr W2 (Or.inl (List.mem_of_getElem? (i := 0) rfl))
  refine o_aloadN X2 hx (hb hby d_jdk_42_method_151_code_9) (v := (.ref a1)) rfl rfl (n := 10) rfl ?_
  refine o_iloadN X2 hx (hb hby d_jdk_42_method_151_code_10) (v := (0 : Int32)) rfl (n := 11) rfl ?_
  refine o_putfield X2 hx hZ hown (host := "") (Or.inl (hw _ (List.mem_of_getElem? (i := 26) rfl))) Via.refl e2 f3 E_2 (Or.inr ⟨(hw _ (List.mem_of_getElem? (i := 27) rfl)), rfl, hnm⟩) (hw _ (List.mem_of_getElem? (i := 2) rfl)) (ty := .byte) (by decide) rfl rfl (hb hby d_jdk_42_method_151_code_11) (n := 14) rfl ?_
  intro T6 h6 X6 e6 W6 F6 E_6
  have f7 := F2.other W6 (Or.inr (slot_ne (Or.inr (hw _ (List.mem_of_getElem? (i := 29) rfl))) (Or.inr (hw _ (List.mem_of_getElem? (i := 27) rfl))) (by decide) (t := (.array .byte)) (t' := .byte) (by decide) (by decide)))
  have zz6 : n0 ≤ h6.size := Nat.le_trans zz2 (Nat.le_of_eq W6.size.symm)
  have N8 := Fr.snoc X6 N4 pg_a1
  have K9 : Keep h0 h6 [a1] := K5.wr W6 (Or.inl (List.mem_of_getElem? (i := 0) rfl))
  exact o_return X6 hx hret hlk (hb hby d_jdk_42_method_151_code_14) (by decide) (by decide) e6 ⟨rfl, N8, K9, E_6, F6, f7⟩
theorem d_jdk_42_method_139_code_0 : decode jdk_42_method_139_code 0 = .ok (.getstatic 38, 3) := by decide +kernel
theorem d_jdk_42_method_139_code_3 : decode jdk_42_method_139_code 3 = .ok (.ifCond .eq 23, 3) := by decide +kernel
theorem d_jdk_42_method_139_code_6 : decode jdk_42_method_139_code 6 = .ok (.iload_n 0, 1) := by decide +kernel
theorem d_jdk_42_method_139_code_7 : decode jdk_42_method_139_code 7 = .ok (.invokestatic 1015, 3) := by decide +kernel
theorem o_pd4 : parseMethodDescriptor "(C)Z" = some ⟨[.char], some .boolean⟩ := by decide +kernel
theorem d_jdk_42_method_139_code_10 : decode jdk_42_method_139_code 10 = .ok (.ifCond .eq 16, 3) := by decide +kernel
theorem d_jdk_42_method_139_code_13 : decode jdk_42_method_139_code 13 = .ok (.new 10, 3) := by decide +kernel
theorem d_jdk_42_method_139_code_16 : decode jdk_42_method_139_code 16 = .ok (.dup, 1) := by decide +kernel
theorem d_jdk_42_method_139_code_17 : decode jdk_42_method_139_code 17 = .ok (.iload_n 0, 1) := by decide +kernel
theorem d_jdk_42_method_139_code_18 : decode jdk_42_method_139_code 18 = .ok (.invokestatic 1018, 3) := by decide +kernel
theorem o_pd5 : parseMethodDescriptor "(C)[B" = some ⟨[.char], some (.array .byte)⟩ := by decide +kernel
theorem d_jdk_42_method_139_code_21 : decode jdk_42_method_139_code 21 = .ok (.iconst 0, 1) := by decide +kernel
theorem d_jdk_42_method_139_code_22 : decode jdk_42_method_139_code 22 = .ok (.invokespecial 209, 3) := by decide +kernel
theorem o_pd6 : parseMethodDescriptor "([BB)V" = some ⟨[(.array .byte), .byte], none⟩ := by decide +kernel
theorem d_jdk_42_method_139_code_25 : decode jdk_42_method_139_code 25 = .ok (.areturn, 1) := by decide +kernel
theorem o_ef9 (m : MethodId) (c0 : Int32) : entryFrame m #[(.int c0)] 1 = mkF m 0 #[.val (.int c0)] [] := by first | (simp [entryFrame, mkF, argsToLocals, Value.category]; done) | rfl
set_option maxRecDepth 65536 in
set_option maxHeartbeats 40000000 in
theorem c_val (l : Launch) (Z : State) (a0 : Array Value) (hw : ∀ d ∈ tables_1, d.before a0 Z = true) (c0 : Int32) (cs : Int32) (h0 : Heap) (n0 : Nat) (Z0 : n0 ≤ h0.size) (pS_COMPACT_STRINGS : Sta Z h0 "java/lang/String" "COMPACT_STRINGS" "Z" (.int cs)) (hq0 : ¬ (255 : Int32) < c0) (hcs : ¬ cs = (0 : Int32)) :
    Does l Z (⟨"java/lang/String", "valueOf", "(C)Ljava/lang/String;"⟩ : MethodName) jdk_42_method_139_code 1 (some (.object "java/lang/String")) [] ({ frames := 2, cells := 2, slots := 5, locals := 27 } : Room) #[(.int c0)] h0 (fun v h L => ∃ (s1 : Addr), ∃ (n1 : Addr) (kn : ClassId), v = some (.ref s1) ∧ Fr n0 L ∧ Keep h0 h [] ∧ h0.size ≤ s1 ∧ h0.size ≤ n1 ∧ s1 ≠ n1 ∧ Exa Z h s1 "java/lang/String" ∧ Fld Z h s1 "java/lang/String" "coder" "B" (.int (0 : Int32)) ∧ Fld Z h s1 "java/lang/String" "value" "[B" (.ref n1) ∧ Arv Z h n1 kn .byte (1 : Int32) [(.int c0.toInt8.toInt32)] (.int (0 : Int32))) := by
  refine Does.of (plainFor_of_name o_pn1) ?_
  intro p e s m below meth c T0 hx hby hml hown hnm hret hlk hZ X0 e0
  have hown : s.vm.findClass "java/lang/String" = some m.cls := hown
  have hml : c.maxLocals = 1 := hml
  have hret : meth.sig.returnType = some (.object "java/lang/String") := hret
  refine o_entry (o_ef9 m c0) ?_
  have N0 := Fr.nil n0
  refine o_getstatic X0 hx hZ hown (host := "") (Or.inl (hw _ (List.mem_of_getElem? (i := 14) rfl))) Via.refl e0 pS_COMPACT_STRINGS (hb hby d_jdk_42_method_139_code_0) (n := 3) rfl ?_
  intro T1 X1 e1
  refine o_ifN X1 hx (hb hby d_jdk_42_method_139_code_3) (XT.i0_eq_f hcs) (n := 6) rfl ?_
  refine o_iloadN X1 hx (hb hby d_jdk_42_method_139_code_6) (v := c0) rfl (n := 7) rfl ?_
  refine o_callS X1 hx hZ hown (hw _ (List.mem_of_getElem? (i := 33) rfl)) (hw _ (List.mem_of_getElem? (i := 34) rfl)) (hw _ (List.mem_of_getElem? (i := 35) rfl)) (hw _ (List.mem_of_getElem? (i := 36) rfl)) (by decide) e1 (argsL := [(.int c0)]) (rest := []) (c_can l Z a0 hw c0 h0 hq0) 0 (by decide) (by decide) (by decide) (by decide) (by rw [hml]; rfl) (lenOf o_pd4 rfl) rfl (Nat.le_of_eq rfl) (hb hby d_jdk_42_method_139_code_7) (n := 10) rfl ?_
  intro v2 T2 L2 X2 q2
  obtain ⟨rfl, e2, rfl⟩ := q2
  have N3 := Fr.app N0 (Fr.nil n0)
  show Goes _ _ p e below s _ _ _ (T2.setTop (mkF m 10 #[.val (.int c0)] [(.int (1 : Int32))]))
  refine o_ifN X2 hx (hb hby d_jdk_42_method_139_code_10) (XT.i0_eq_f (by decide)) (n := 13) rfl ?_
  refine o_new X2 hx hZ hown (hw _ (List.mem_of_getElem? (i := 37) rfl)) (hw _ (List.mem_of_getElem? (i := 2) rfl)) (hw _ (List.mem_of_getElem? (i := 3) rfl)) e2 (hb hby d_jdk_42_method_139_code_13) (by decide) (by decide) (n := 16) rfl ?_
  intro T4 h4 b4 X4 e4 g4 E4 A4 D4
  have gg4 : n0 ≤ b4 := Nat.le_trans Z0 (Nat.le_of_eq g4.symm)
  have zz4 : n0 ≤ h4.size := Nat.le_trans Z0 E4.1
  have sz4 : h0.size ≤ b4 := Nat.le_trans (Keep.refl h0 []).1 (Nat.le_of_eq g4.symm)
  have f5 := pS_COMPACT_STRINGS.ext E4
  have K6 : Keep h0 h4 [] := (Keep.refl h0 []).ext E4
  have f7 : Fld Z h4 b4 "java/lang/String" "coder" "B" (.int (0 : Int32)) := D4 (Or.inr (hw _ (List.mem_of_getElem? (i := 27) rfl))) (ty := .byte) (by decide)
  have f8 : Fld Z h4 b4 "java/lang/String" "value" "[B" .null := D4 (Or.inr (hw _ (List.mem_of_getElem? (i := 29) rfl))) (ty := (.array .byte)) (by decide)
  refine o_dup X4 hx (hb hby d_jdk_42_method_139_code_16) rfl (n := 17) rfl ?_
  refine o_iloadN X4 hx (hb hby d_jdk_42_method_139_code_17) (v := c0) rfl (n := 18) rfl ?_
  refine o_callS X4 hx hZ hown (hw _ (List.mem_of_getElem? (i := 38) rfl)) (hw _ (List.mem_of_getElem? (i := 39) rfl)) (hw _ (List.mem_of_getElem? (i := 35) rfl)) (hw _ (List.mem_of_getElem? (i := 40) rfl)) (by decide) e4 (argsL := [(.int c0)]) (rest := [(.ref b4), (.ref b4)]) (c_tob l Z a0 hw c0 h4 n0 zz4) 2 (by decide) (by decide) (by decide) (by decide) (by rw [hml]; rfl) (lenOf o_pd5 rfl) rfl (Nat.le_of_eq rfl) (hb hby d_jdk_42_method_139_code_18) (n := 21) rfl ?_
  intro v9 T9 L9 X9 q9
  obtain ⟨n1_9, kn_9, rfl, Nq9, K9, sq9_n1, o9_0⟩ := q9
  have N10 := Fr.app N3 Nq9
  have ne11 : b4 ≠ n1_9 := Nat.ne_of_lt (Nat.lt_of_lt_of_le A4.lt sq9_n1)
  have gg9_n1 : n0 ≤ n1_9 := Nat.le_trans zz4 sq9_n1
  have sz9_n1 : h0.size ≤ n1_9 := Nat.le_trans K6.1 sq9_n1
  have f12 := o_sta_keep f5 K9 all0
  have f13 := A4.keep K9
  have f14 := f7.keep K9 nin0
  have f15 := f8.keep K9 nin0
  have zz9 : n0 ≤ T9.heap.size := Nat.le_trans zz4 K9.1
  have K16 : Keep h0 T9.heap [] := K6.trans K9 all0
  show Goes _ _ p e below s _ _ _ (T9.setTop (mkF m 21 #[.val (.int c0)] [(.ref n1_9), (.ref b4), (.ref b4)]))
  refine o_iconst X9 hx (hb hby d_jdk_42_method_139_code_21) (v := (0 : Int32)) rfl (n := 22) rfl ?_
  refine o_callN X9 hx hZ rfl hown (hw _ (List.mem_of_getElem? (i := 41) rfl)) (hw _ (List.mem_of_getElem? (i := 42) rfl)) (hw _ (List.mem_of_getElem? (i := 3) rfl)) (hw _ (List.mem_of_getElem? (i := 43) rfl)) (by decide) (rfl : T9.heap = T9.heap) (a := b4) (argsL := [(.ref n1_9), (.int (0 : Int32))]) (rest := [(.ref b4)]) (c_inb l Z a0 hw b4 n1_9 T9.heap n0 zz9 gg4 f13 f14 f15) 1 (by decide) (by decide) (by decide) (by decide) (by rw [hml]; rfl) (lenOf o_pd6 rfl) rfl (Nat.le_of_eq rfl) (hb hby d_jdk_42_method_139_code_22) (n := 25) rfl ?_
  intro v17 T17 L17 X17 q17
  obtain ⟨rfl, Nq17, K17, o17_0, o17_1, o17_2⟩ := q17
  have N18 := Fr.app N10 Nq17
  have f19 := o_sta_keep f12 K17 (allS (P := fun a => ∀ cl : Cell, T9.heap[a]? = some cl → cl.vm.isStatics = false) (o_exa_ns f13) all0)
  have f20 := f13.keep K17
  have f23 := o9_0.keep K17 (ninS (Ne.symm ne11) nin0)
  have zz17 : n0 ≤ T17.heap.size := Nat.le_trans zz9 K17.1
  have K24 : Keep h0 T17.heap [] := K16.trans K17 (allS (P := fun x => x ∈ [] ∨ h0.size ≤ x) (Or.inr sz4) all0)
  show Goes _ _ p e below s _ _ _ (T17.setTop (mkF m 25 #[.val (.int c0)] [(.ref b4)]))
  exact o_areturn X17 hx hret hlk rfl rfl (hb hby d_jdk_42_method_139_code_25) (by decide) (by decide) (rfl : T17.heap = T17.heap) ⟨b4, n1_9, kn_9, rfl, N18, K24, sz4, sz9_n1, ne11, o17_0, o17_1, o17_2, f23⟩
theorem d_method_2_code_0 : decode method_2_code 0 = .ok (.iload_n 0, 1) := by decide +kernel
theorem d_method_2_code_1 : decode method_2_code 1 = .ok (.ifCond .ne 7, 3) := by decide +kernel
theorem d_method_2_code_4 : decode method_2_code 4 = .ok (.getstatic 7, 3) := by decide +kernel
theorem d_method_2_code_7 : decode method_2_code 7 = .ok (.areturn, 1) := by decide +kernel
theorem d_method_2_code_8 : decode method_2_code 8 = .ok (.iload_n 0, 1) := by decide +kernel
theorem d_method_2_code_9 : decode method_2_code 9 = .ok (.iconst 1, 1) := by decide +kernel
theorem d_method_2_code_10 : decode method_2_code 10 = .ok (.if_icmp .ne 7, 3) := by decide +kernel
theorem d_method_2_code_13 : decode method_2_code 13 = .ok (.getstatic 13, 3) := by decide +kernel
theorem d_method_2_code_16 : decode method_2_code 16 = .ok (.areturn, 1) := by decide +kernel
theorem d_method_2_code_17 : decode method_2_code 17 = .ok (.iload_n 0, 1) := by decide +kernel
theorem d_method_2_code_18 : decode method_2_code 18 = .ok (.iconst 2, 1) := by decide +kernel
theorem d_method_2_code_19 : decode method_2_code 19 = .ok (.if_icmp .ne 7, 3) := by decide +kernel
theorem d_method_2_code_22 : decode method_2_code 22 = .ok (.getstatic 16, 3) := by decide +kernel
theorem d_method_2_code_25 : decode method_2_code 25 = .ok (.areturn, 1) := by decide +kernel
theorem d_method_2_code_26 : decode method_2_code 26 = .ok (.getstatic 19, 3) := by decide +kernel
theorem d_method_2_code_29 : decode method_2_code 29 = .ok (.areturn, 1) := by decide +kernel
theorem o_ef10 (m : MethodId) (p0 : Int32) : entryFrame m #[(.int p0)] 1 = mkF m 0 #[.val (.int p0)] [] := by first | (simp [entryFrame, mkF, argsToLocals, Value.category]; done) | rfl
theorem o_pn3 : plainName "com/example/estim365/estim365/cli/OptionIsFlagPinLaw" = true := by first | (simp [plainName, overriddenIn]; done) | decide +kernel
set_option maxRecDepth 65536 in
set_option maxHeartbeats 40000000 in
theorem c_occ (l : Launch) (Z : State) (a0 : Array Value) (hw : ∀ d ∈ tables_1, d.before a0 Z = true) (p0 : Int32) (x0 : Addr) (x1 : Addr) (x2 : Addr) (x3 : Addr) (h0 : Heap) (pS_REQUIRED : Sta Z h0 "com/example/estim365/estim365/cli/Option$Occurrence" "REQUIRED" "Lcom/example/estim365/estim365/cli/Option$Occurrence;" (.ref x0)) (pS_OPTIONAL : Sta Z h0 "com/example/estim365/estim365/cli/Option$Occurrence" "OPTIONAL" "Lcom/example/estim365/estim365/cli/Option$Occurrence;" (.ref x1)) (pS_REPEATED : Sta Z h0 "com/example/estim365/estim365/cli/Option$Occurrence" "REPEATED" "Lcom/example/estim365/estim365/cli/Option$Occurrence;" (.ref x2)) (pS_OPTIONAL_REPEATED : Sta Z h0 "com/example/estim365/estim365/cli/Option$Occurrence" "OPTIONAL_REPEATED" "Lcom/example/estim365/estim365/cli/Option$Occurrence;" (.ref x3)) :
    Does l Z (⟨"com/example/estim365/estim365/cli/OptionIsFlagPinLaw", "occurrence", "(I)Lcom/example/estim365/estim365/cli/Option$Occurrence;"⟩ : MethodName) method_2_code 1 (some (.object "com/example/estim365/estim365/cli/Option$Occurrence")) [] ({ frames := 0, cells := 0, slots := 0, locals := 0 } : Room) #[(.int p0)] h0 (Pur h0 (.ref (o_oc p0 x0 x1 x2 x3))) := by
  refine Does.of (plainFor_of_name o_pn3) ?_
  intro p e s m below meth c T0 hx hby hml hown hnm hret hlk hZ X0 e0
  have hown : s.vm.findClass "com/example/estim365/estim365/cli/OptionIsFlagPinLaw" = some m.cls := hown
  have hml : c.maxLocals = 1 := hml
  have hret : meth.sig.returnType = some (.object "com/example/estim365/estim365/cli/Option$Occurrence") := hret
  refine o_entry (o_ef10 m p0) ?_
  refine o_iloadN X0 hx (hb hby d_method_2_code_0) (v := p0) rfl (n := 1) rfl ?_
  by_cases hc1 : p0 = (0 : Int32)
  · refine o_ifN X0 hx (hb hby d_method_2_code_1) (XT.i0_ne_f hc1) (n := 4) rfl ?_
    refine o_getstatic X0 hx hZ hown (host := "") (Or.inl (hw _ (List.mem_of_getElem? (i := 48) rfl))) Via.refl e0 pS_REQUIRED (hb hby d_method_2_code_4) (n := 7) rfl ?_
    intro T1 X1 e1
    exact o_areturn X1 hx hret hlk rfl rfl (hb hby d_method_2_code_7) (by decide) (by decide) e1 ⟨by simp [o_oc, hc1], rfl, rfl⟩
  · refine o_ifY X0 hx (hb hby d_method_2_code_1) (XT.i0_ne_t hc1) (by decide) (n := 8) (by decide) ?_
    refine o_iloadN X0 hx (hb hby d_method_2_code_8) (v := p0) rfl (n := 9) rfl ?_
    refine o_iconst X0 hx (hb hby d_method_2_code_9) (v := (1 : Int32)) rfl (n := 10) rfl ?_
    by_cases hc10 : p0 = (1 : Int32)
    · refine o_icmpN X0 hx (hb hby d_method_2_code_10) (XT.ii_ne_f hc10) (n := 13) rfl ?_
      refine o_getstatic X0 hx hZ hown (host := "") (Or.inl (hw _ (List.mem_of_getElem? (i := 210) rfl))) Via.refl e0 pS_OPTIONAL (hb hby d_method_2_code_13) (n := 16) rfl ?_
      intro T2 X2 e2
      exact o_areturn X2 hx hret hlk rfl rfl (hb hby d_method_2_code_16) (by decide) (by decide) e2 ⟨by simp [o_oc, hc1, hc10], rfl, rfl⟩
    · refine o_icmpY X0 hx (hb hby d_method_2_code_10) (XT.ii_ne_t hc10) (by decide) (n := 17) (by decide) ?_
      refine o_iloadN X0 hx (hb hby d_method_2_code_17) (v := p0) rfl (n := 18) rfl ?_
      refine o_iconst X0 hx (hb hby d_method_2_code_18) (v := (2 : Int32)) rfl (n := 19) rfl ?_
      by_cases hc19 : p0 = (2 : Int32)
      · refine o_icmpN X0 hx (hb hby d_method_2_code_19) (XT.ii_ne_f hc19) (n := 22) rfl ?_
        refine o_getstatic X0 hx hZ hown (host := "") (Or.inl (hw _ (List.mem_of_getElem? (i := 211) rfl))) Via.refl e0 pS_REPEATED (hb hby d_method_2_code_22) (n := 25) rfl ?_
        intro T3 X3 e3
        exact o_areturn X3 hx hret hlk rfl rfl (hb hby d_method_2_code_25) (by decide) (by decide) e3 ⟨by simp [o_oc, hc1, hc10, hc19], rfl, rfl⟩
      · refine o_icmpY X0 hx (hb hby d_method_2_code_19) (XT.ii_ne_t hc19) (by decide) (n := 26) (by decide) ?_
        refine o_getstatic X0 hx hZ hown (host := "") (Or.inl (hw _ (List.mem_of_getElem? (i := 213) rfl))) Via.refl e0 pS_OPTIONAL_REPEATED (hb hby d_method_2_code_26) (n := 29) rfl ?_
        intro T4 X4 e4
        exact o_areturn X4 hx hret hlk rfl rfl (hb hby d_method_2_code_29) (by decide) (by decide) e4 ⟨by simp [o_oc, hc1, hc10, hc19], rfl, rfl⟩
theorem d_jdk_30_method_1_code_0 : decode jdk_30_method_1_code 0 = .ok (.aload_n 0, 1) := by decide +kernel
theorem d_jdk_30_method_1_code_1 : decode jdk_30_method_1_code 1 = .ok (.invokespecial 1, 3) := by decide +kernel
theorem d_jdk_30_method_1_code_4 : decode jdk_30_method_1_code 4 = .ok (.return_, 1) := by decide +kernel
theorem o_ef11 (m : MethodId) (a1 : Addr) : entryFrame m #[(.ref a1)] 1 = mkF m 0 #[.val (.ref a1)] [] := by first | (simp [entryFrame, mkF, argsToLocals, Value.category]; done) | rfl
theorem o_pn4 : plainName "java/lang/Record" = true := by first | (simp [plainName, overriddenIn]; done) | decide +kernel
set_option maxRecDepth 65536 in
set_option maxHeartbeats 40000000 in
theorem c_rec (l : Launch) (Z : State) (a0 : Array Value) (hw : ∀ d ∈ tables_1, d.before a0 Z = true) (a1 : Addr) (h0 : Heap) :
    Does l Z (⟨"java/lang/Record", "<init>", "()V"⟩ : MethodName) jdk_30_method_1_code 1 none [] ({ frames := 1, cells := 0, slots := 0, locals := 12 } : Room) #[(.ref a1)] h0 (fun v h L => v = none ∧ h = h0 ∧ L = []) := by
  refine Does.of (plainFor_of_name o_pn4) ?_
  intro p e s m below meth c T0 hx hby hml hown hnm hret hlk hZ X0 e0
  have hown : s.vm.findClass "java/lang/Record" = some m.cls := hown
  have hml : c.maxLocals = 1 := hml
  have hret : meth.sig.returnType = none := hret
  refine o_entry (o_ef11 m a1) ?_
  refine o_aloadN X0 hx (hb hby d_jdk_30_method_1_code_0) (v := (.ref a1)) rfl rfl (n := 1) rfl ?_
  refine o_initO X0 hx hZ hown (hw _ (List.mem_of_getElem? (i := 62) rfl)) (hw _ (List.mem_of_getElem? (i := 12) rfl)) (hw _ (List.mem_of_getElem? (i := 13) rfl)) e0 (by rw [hml]; rfl) (hb hby d_jdk_30_method_1_code_1) (by decide) 0 (Nat.le_of_eq rfl) (by decide) (n := 4) rfl ?_
  intro T1 X1 e1
  exact o_return X1 hx hret hlk (hb hby d_jdk_30_method_1_code_4) (by decide) (by decide) e1 ⟨rfl, rfl, rfl⟩
theorem d_prog_5_method_1_code_0 : decode prog_5_method_1_code 0 = .ok (.aload_n 0, 1) := by decide +kernel
theorem d_prog_5_method_1_code_1 : decode prog_5_method_1_code 1 = .ok (.invokespecial 1, 3) := by decide +kernel
theorem o_pd7 : parseMethodDescriptor "()V" = some ⟨[], none⟩ := by decide +kernel
theorem d_prog_5_method_1_code_4 : decode prog_5_method_1_code 4 = .ok (.aload_n 0, 1) := by decide +kernel
theorem d_prog_5_method_1_code_5 : decode prog_5_method_1_code 5 = .ok (.aload_n 1, 1) := by decide +kernel
theorem d_prog_5_method_1_code_6 : decode prog_5_method_1_code 6 = .ok (.putfield 7, 3) := by decide +kernel
theorem d_prog_5_method_1_code_9 : decode prog_5_method_1_code 9 = .ok (.aload_n 0, 1) := by decide +kernel
theorem d_prog_5_method_1_code_10 : decode prog_5_method_1_code 10 = .ok (.aload_n 2, 1) := by decide +kernel
theorem d_prog_5_method_1_code_11 : decode prog_5_method_1_code 11 = .ok (.putfield 13, 3) := by decide +kernel
theorem d_prog_5_method_1_code_14 : decode prog_5_method_1_code 14 = .ok (.aload_n 0, 1) := by decide +kernel
theorem d_prog_5_method_1_code_15 : decode prog_5_method_1_code 15 = .ok (.aload_n 3, 1) := by decide +kernel
theorem d_prog_5_method_1_code_16 : decode prog_5_method_1_code 16 = .ok (.putfield 16, 3) := by decide +kernel
theorem d_prog_5_method_1_code_19 : decode prog_5_method_1_code 19 = .ok (.aload_n 0, 1) := by decide +kernel
theorem d_prog_5_method_1_code_20 : decode prog_5_method_1_code 20 = .ok (.aload 4, 2) := by decide +kernel
theorem d_prog_5_method_1_code_22 : decode prog_5_method_1_code 22 = .ok (.putfield 20, 3) := by decide +kernel
theorem d_prog_5_method_1_code_25 : decode prog_5_method_1_code 25 = .ok (.return_, 1) := by decide +kernel
theorem o_ef12 (m : MethodId) (a1 : Addr) (m1 : Addr) (o1 : Addr) (d1 : Addr) : entryFrame m #[(.ref a1), (.ref m1), .null, (.ref o1), (.ref d1)] 5 = mkF m 0 #[.val (.ref a1), .val (.ref m1), .val .null, .val (.ref o1), .val (.ref d1)] [] := by first | (simp [entryFrame, mkF, argsToLocals, Value.category]; done) | rfl
theorem o_pn5 : plainName "com/example/estim365/estim365/cli/Option" = true := by first | (simp [plainName, overriddenIn]; done) | decide +kernel
set_option maxRecDepth 65536 in
set_option maxHeartbeats 40000000 in
theorem c_opi1 (l : Launch) (Z : State) (a0 : Array Value) (hw : ∀ d ∈ tables_1, d.before a0 Z = true) (a1 : Addr) (m1 : Addr) (o1 : Addr) (d1 : Addr) (h0 : Heap) (n0 : Nat) (Z0 : n0 ≤ h0.size) (pg_a1 : n0 ≤ a1) (pE_a1 : Exa Z h0 a1 "com/example/estim365/estim365/cli/Option") (pF_a1_name : Fld Z h0 a1 "com/example/estim365/estim365/cli/Option" "name" "Ljava/lang/String;" .null) (pF_a1_value : Fld Z h0 a1 "com/example/estim365/estim365/cli/Option" "value" "Ljava/lang/String;" .null) (pF_a1_occurrence : Fld Z h0 a1 "com/example/estim365/estim365/cli/Option" "occurrence" "Lcom/example/estim365/estim365/cli/Option$Occurrence;" .null) (pF_a1_description : Fld Z h0 a1 "com/example/estim365/estim365/cli/Option" "description" "Ljava/lang/String;" .null) :
    Does l Z (⟨"com/example/estim365/estim365/cli/Option", "<init>", "(Ljava/lang/String;Ljava/lang/String;Lcom/example/estim365/estim365/cli/Option$Occurrence;Ljava/lang/String;)V"⟩ : MethodName) prog_5_method_1_code 5 none [] ({ frames := 2, cells := 0, slots := 0, locals := 24 } : Room) #[(.ref a1), (.ref m1), .null, (.ref o1), (.ref d1)] h0 (fun v h L => v = none ∧ Fr n0 L ∧ Keep h0 h [a1] ∧ Exa Z h a1 "com/example/estim365/estim365/cli/Option" ∧ Fld Z h a1 "com/example/estim365/estim365/cli/Option" "name" "Ljava/lang/String;" (.ref m1) ∧ Fld Z h a1 "com/example/estim365/estim365/cli/Option" "value" "Ljava/lang/String;" .null ∧ Fld Z h a1 "com/example/estim365/estim365/cli/Option" "occurrence" "Lcom/example/estim365/estim365/cli/Option$Occurrence;" (.ref o1) ∧ Fld Z h a1 "com/example/estim365/estim365/cli/Option" "description" "Ljava/lang/String;" (.ref d1)) := by
  refine Does.of (plainFor_of_name o_pn5) ?_
  intro p e s m below meth c T0 hx hby hml hown hnm hret hlk hZ X0 e0
  have hown : s.vm.findClass "com/example/estim365/estim365/cli/Option" = some m.cls := hown
  have hml : c.maxLocals = 5 := hml
  have hret : meth.sig.returnType = none := hret
  refine o_entry (o_ef12 m a1 m1 o1 d1) ?_
  have N0 := Fr.nil n0
  refine o_aloadN X0 hx (hb hby d_prog_5_method_1_code_0) (v := (.ref a1)) rfl rfl (n := 1) rfl ?_
  refine o_callN X0 hx hZ rfl hown (hw _ (List.mem_of_getElem? (i := 57) rfl)) (hw _ (List.mem_of_getElem? (i := 58) rfl)) (hw _ (List.mem_of_getElem? (i := 60) rfl)) (hw _ (List.mem_of_getElem? (i := 61) rfl)) (by decide) e0 (a := a1) (argsL := []) (rest := []) (c_rec l Z a0 hw a1 h0) 0 (by decide) (by decide) (by decide) (by decide) (by rw [hml]; rfl) (lenOf o_pd7 rfl) rfl (Nat.le_of_eq rfl) (hb hby d_prog_5_method_1_code_1) (n := 4) rfl ?_
  intro v1 T1 L1 X1 q1
  obtain ⟨rfl, e1, rfl⟩ := q1
  have N2 := Fr.app N0 (Fr.nil n0)
  show Goes _ _ p e below s _ _ _ (T1.setTop (mkF m 4 #[.val (.ref a1), .val (.ref m1), .val .null, .val (.ref o1), .val (.ref d1)] []))
  refine o_aloadN X1 hx (hb hby d_prog_5_method_1_code_4) (v := (.ref a1)) rfl rfl (n := 5) rfl ?_
  refine o_aloadN X1 hx (hb hby d_prog_5_method_1_code_5) (v := (.ref m1)) rfl rfl (n := 6) rfl ?_
  refine o_putfield X1 hx hZ hown (host := "") (Or.inl (hw _ (List.mem_of_getElem? (i := 63) rfl))) Via.refl e1 pF_a1_name pE_a1 (Or.inr ⟨(hw _ (List.mem_of_getElem? (i := 64) rfl)), rfl, hnm⟩) (hw _ (List.mem_of_getElem? (i := 52) rfl)) (ty := (.object "java/lang/String")) (by decide) rfl rfl (hb hby d_prog_5_method_1_code_6) (n := 9) rfl ?_
  intro T3 h3 X3 e3 W3 F3 E_3
  have f4 := pF_a1_value.other W3 (Or.inr (slot_ne (Or.inr (hw _ (List.mem_of_getElem? (i := 66) rfl))) (Or.inr (hw _ (List.mem_of_getElem? (i := 64) rfl))) (by decide) (t := (.object "java/lang/String")) (t' := (.object "java/lang/String")) (by decide) (by decide)))
  have f5 := pF_a1_occurrence.other W3 (Or.inr (slot_ne (Or.inr (hw _ (List.mem_of_getElem? (i := 68) rfl))) (Or.inr (hw _ (List.mem_of_getElem? (i := 64) rfl))) (by decide) (t := (.object "com/example/estim365/estim365/cli/Option$Occurrence")) (t' := (.object "java/lang/String")) (by decide) (by decide)))
  have f6 := pF_a1_description.other W3 (Or.inr (slot_ne (Or.inr (hw _ (List.mem_of_getElem? (i := 70) rfl))) (Or.inr (hw _ (List.mem_of_getElem? (i := 64) rfl))) (by decide) (t := (.object "java/lang/String")) (t' := (.object "java/lang/String")) (by decide) (by decide)))
  have zz3 : n0 ≤ h3.size := Nat.le_trans Z0 (Nat.le_of_eq W3.size.symm)
  have N7 := Fr.snoc X3 N2 pg_a1
  have K8 : Keep h0 h3 [a1] := (Keep.refl h0 [a1]).wr W3 (Or.inl (List.mem_of_getElem? (i := 0) rfl))
  refine o_aloadN X3 hx (hb hby d_prog_5_method_1_code_9) (v := (.ref a1)) rfl rfl (n := 10) rfl ?_
  refine o_aloadN X3 hx (hb hby d_prog_5_method_1_code_10) (v := .null) rfl rfl (n := 11) rfl ?_
  refine o_putfield X3 hx hZ hown (host := "") (Or.inl (hw _ (List.mem_of_getElem? (i := 65) rfl))) Via.refl e3 f4 E_3 (Or.inr ⟨(hw _ (List.mem_of_getElem? (i := 66) rfl)), rfl, hnm⟩) (hw _ (List.mem_of_getElem? (i := 52) rfl)) (ty := (.object "java/lang/String")) (by decide) rfl rfl (hb hby d_prog_5_method_1_code_11) (n := 14) rfl ?_
  intro T9 h9 X9 e9 W9 F9 E_9
  have f10 := F3.other W9 (Or.inr (slot_ne (Or.inr (hw _ (List.mem_of_getElem? (i := 64) rfl))) (Or.inr (hw _ (List.mem_of_getElem? (i := 66) rfl))) (by decide) (t := (.object "java/lang/String")) (t' := (.object "java/lang/String")) (by decide) (by decide)))
  have f11 := f5.other W9 (Or.inr (slot_ne (Or.inr (hw _ (List.mem_of_getElem? (i := 68) rfl))) (Or.inr (hw _ (List.mem_of_getElem? (i := 66) rfl))) (by decide) (t := (.object "com/example/estim365/estim365/cli/Option$Occurrence")) (t' := (.object "java/lang/String")) (by decide) (by decide)))
  have f12 := f6.other W9 (Or.inr (slot_ne (Or.inr (hw _ (List.mem_of_getElem? (i := 70) rfl))) (Or.inr (hw _ (List.mem_of_getElem? (i := 66) rfl))) (by decide) (t := (.object "java/lang/String")) (t' := (.object "java/lang/String")) (by decide) (by decide)))
  have zz9 : n0 ≤ h9.size := Nat.le_trans zz3 (Nat.le_of_eq W9.size.symm)
  have N13 := Fr.snoc X9 N7 pg_a1
  have K14 : Keep h0 h9 [a1] := K8.wr W9 (Or.inl (List.mem_of_getElem? (i := 0) rfl))
  refine o_aloadN X9 hx (hb hby d_prog_5_method_1_code_14) (v := (.ref a1)) rfl rfl (n := 15) rfl ?_
  refine o_aloadN X9 hx (hb hby d_prog_5_method_1_code_15) (v := (.ref o1)) rfl rfl (n := 16) rfl ?_
  refine o_putfield X9 hx hZ hown (host := "") (Or.inl (hw _ (List.mem_of_getElem? (i := 67) rfl))) Via.refl e9 f11 E_9 (Or.inr ⟨(hw _ (List.mem_of_getElem? (i := 68) rfl)), rfl, hnm⟩) (hw _ (List.mem_of_getElem? (i := 52) rfl)) (ty := (.object "com/example/estim365/estim365/cli/Option$Occurrence")) (by decide) rfl rfl (hb hby d_prog_5_method_1_code_16) (n := 19) rfl ?_
  intro T15 h15 X15 e15 W15 F15 E_15
  have f16 := f10.other W15 (Or.inr (slot_ne (Or.inr (hw _ (List.mem_of_getElem? (i := 64) rfl))) (Or.inr (hw _ (List.mem_of_getElem? (i := 68) rfl))) (by decide) (t := (.object "java/lang/String")) (t' := (.object "com/example/estim365/estim365/cli/Option$Occurrence")) (by decide) (by decide)))
  have f17 := F9.other W15 (Or.inr (slot_ne (Or.inr (hw _ (List.mem_of_getElem? (i := 66) rfl))) (Or.inr (hw _ (List.mem_of_getElem? (i := 68) rfl))) (by decide) (t := (.object "java/lang/String")) (t' := (.object "com/example/estim365/estim365/cli/Option$Occurrence")) (by decide) (by decide)))
  have f18 := f12.other W15 (Or.inr (slot_ne (Or.inr (hw _ (List.mem_of_getElem? (i := 70) rfl))) (Or.inr (hw _ (List.mem_of_getElem? (i := 68) rfl))) (by decide) (t := (.object "java/lang/String")) (t' := (.object "com/example/estim365/estim365/cli/Option$Occurrence")) (by decide) (by decide)))
  have zz15 : n0 ≤ h15.size := Nat.le_trans zz9 (Nat.le_of_eq W15.size.symm)
  have N19 := Fr.snoc X15 N13 pg_a1
  have K20 : Keep h0 h15 [a1] := K14.wr W15 (Or.inl (List.mem_of_getElem? (i := 0) rfl))
  refine o_aloadN X15 hx (hb hby d_prog_5_method_1_code_19) (v := (.ref a1)) rfl rfl (n := 20) rfl ?_
  refine o_aload X15 hx (hb hby d_prog_5_method_1_code_20) (v := (.ref d1)) rfl rfl (n := 22) rfl ?_
  refine o_putfield X15 hx hZ hown (host := "") (Or.inl (hw _ (List.mem_of_getElem? (i := 69) rfl))) Via.refl e15 f18 E_15 (Or.inr ⟨(hw _ (List.mem_of_getElem? (i := 70) rfl)), rfl, hnm⟩) (hw _ (List.mem_of_getElem? (i := 52) rfl)) (ty := (.object "java/lang/String")) (by decide) rfl rfl (hb hby d_prog_5_method_1_code_22) (n := 25) rfl ?_
  intro T21 h21 X21 e21 W21 F21 E_21
  have f22 := f16.other W21 (Or.inr (slot_ne (Or.inr (hw _ (List.mem_of_getElem? (i := 64) rfl))) (Or.inr (hw _ (List.mem_of_getElem? (i := 70) rfl))) (by decide) (t := (.object "java/lang/String")) (t' := (.object "java/lang/String")) (by decide) (by decide)))
  have f23 := f17.other W21 (Or.inr (slot_ne (Or.inr (hw _ (List.mem_of_getElem? (i := 66) rfl))) (Or.inr (hw _ (List.mem_of_getElem? (i := 70) rfl))) (by decide) (t := (.object "java/lang/String")) (t' := (.object "java/lang/String")) (by decide) (by decide)))
  have f24 := F15.other W21 (Or.inr (slot_ne (Or.inr (hw _ (List.mem_of_getElem? (i := 68) rfl))) (Or.inr (hw _ (List.mem_of_getElem? (i := 70) rfl))) (by decide) (t := (.object "com/example/estim365/estim365/cli/Option$Occurrence")) (t' := (.object "java/lang/String")) (by decide) (by decide)))
  have zz21 : n0 ≤ h21.size := Nat.le_trans zz15 (Nat.le_of_eq W21.size.symm)
  have N25 := Fr.snoc X21 N19 pg_a1
  have K26 : Keep h0 h21 [a1] := K20.wr W21 (Or.inl (List.mem_of_getElem? (i := 0) rfl))
  exact o_return X21 hx hret hlk (hb hby d_prog_5_method_1_code_25) (by decide) (by decide) e21 ⟨rfl, N25, K26, E_21, f22, f23, f24, F21⟩
theorem o_ef13 (m : MethodId) (a1 : Addr) (m1 : Addr) (v1 : Addr) (o1 : Addr) (d1 : Addr) : entryFrame m #[(.ref a1), (.ref m1), (.ref v1), (.ref o1), (.ref d1)] 5 = mkF m 0 #[.val (.ref a1), .val (.ref m1), .val (.ref v1), .val (.ref o1), .val (.ref d1)] [] := by first | (simp [entryFrame, mkF, argsToLocals, Value.category]; done) | rfl
set_option maxRecDepth 65536 in
set_option maxHeartbeats 40000000 in
theorem c_opi0 (l : Launch) (Z : State) (a0 : Array Value) (hw : ∀ d ∈ tables_1, d.before a0 Z = true) (a1 : Addr) (m1 : Addr) (v1 : Addr) (o1 : Addr) (d1 : Addr) (h0 : Heap) (n0 : Nat) (Z0 : n0 ≤ h0.size) (pg_a1 : n0 ≤ a1) (pE_a1 : Exa Z h0 a1 "com/example/estim365/estim365/cli/Option") (pF_a1_name : Fld Z h0 a1 "com/example/estim365/estim365/cli/Option" "name" "Ljava/lang/String;" .null) (pF_a1_value : Fld Z h0 a1 "com/example/estim365/estim365/cli/Option" "value" "Ljava/lang/String;" .null) (pF_a1_occurrence : Fld Z h0 a1 "com/example/estim365/estim365/cli/Option" "occurrence" "Lcom/example/estim365/estim365/cli/Option$Occurrence;" .null) (pF_a1_description : Fld Z h0 a1 "com/example/estim365/estim365/cli/Option" "description" "Ljava/lang/String;" .null) :
    Does l Z (⟨"com/example/estim365/estim365/cli/Option", "<init>", "(Ljava/lang/String;Ljava/lang/String;Lcom/example/estim365/estim365/cli/Option$Occurrence;Ljava/lang/String;)V"⟩ : MethodName) prog_5_method_1_code 5 none [] ({ frames := 2, cells := 0, slots := 0, locals := 24 } : Room) #[(.ref a1), (.ref m1), (.ref v1), (.ref o1), (.ref d1)] h0 (fun v h L => v = none ∧ Fr n0 L ∧ Keep h0 h [a1] ∧ Exa Z h a1 "com/example/estim365/estim365/cli/Option" ∧ Fld Z h a1 "com/example/estim365/estim365/cli/Option" "name" "Ljava/lang/String;" (.ref m1) ∧ Fld Z h a1 "com/example/estim365/estim365/cli/Option" "value" "Ljava/lang/String;" (.ref v1) ∧ Fld Z h a1 "com/example/estim365/estim365/cli/Option" "occurrence" "Lcom/example/estim365/estim365/cli/Option$Occurrence;" (.ref o1) ∧ Fld Z h a1 "com/example/estim365/estim365/cli/Option" "description" "Ljava/lang/String;" (.ref d1)) := by
  refine Does.of (plainFor_of_name o_pn5) ?_
  intro p e s m below meth c T0 hx hby hml hown hnm hret hlk hZ X0 e0
  have hown : s.vm.findClass "com/example/estim365/estim365/cli/Option" = some m.cls := hown
  have hml : c.maxLocals = 5 := hml
  have hret : meth.sig.returnType = none := hret
  refine o_entry (o_ef13 m a1 m1 v1 o1 d1) ?_
  have N0 := Fr.nil n0
  refine o_aloadN X0 hx (hb hby d_prog_5_method_1_code_0) (v := (.ref a1)) rfl rfl (n := 1) rfl ?_
  refine o_callN X0 hx hZ rfl hown (hw _ (List.mem_of_getElem? (i := 57) rfl)) (hw _ (List.mem_of_getElem? (i := 58) rfl)) (hw _ (List.mem_of_getElem? (i := 60) rfl)) (hw _ (List.mem_of_getElem? (i := 61) rfl)) (by decide) e0 (a := a1) (argsL := []) (rest := []) (c_rec l Z a0 hw a1 h0) 0 (by decide) (by decide) (by decide) (by decide) (by rw [hml]; rfl) (lenOf o_pd7 rfl) rfl (Nat.le_of_eq rfl) (hb hby d_prog_5_method_1_code_1) (n := 4) rfl ?_
  intro v1 T1 L1 X1 q1
  obtain ⟨rfl, e1, rfl⟩ := q1
  have N2 := Fr.app N0 (Fr.nil n0)
  show Goes _ _ p e below s _ _ _ (T1.setTop (mkF m 4 #[.val (.ref a1), .val (.ref m1), .val (.ref v1), .val (.ref o1), .val (.ref d1)] []))
  refine o_aloadN X1 hx (hb hby d_prog_5_method_1_code_4) (v := (.ref a1)) rfl rfl (n := 5) rfl ?_
  refine o_aloadN X1 hx (hb hby d_prog_5_method_1_code_5) (v := (.ref m1)) rfl rfl (n := 6) rfl ?_
  refine o_putfield X1 hx hZ hown (host := "") (Or.inl (hw _ (List.mem_of_getElem? (i := 63) rfl))) Via.refl e1 pF_a1_name pE_a1 (Or.inr ⟨(hw _ (List.mem_of_getElem? (i := 64) rfl)), rfl, hnm⟩) (hw _ (List.mem_of_getElem? (i := 52) rfl)) (ty := (.object "java/lang/String")) (by decide) rfl rfl (hb hby d_prog_5_method_1_code_6) (n := 9) rfl ?_
  intro T3 h3 X3 e3 W3 F3 E_3
  have f4 := pF_a1_value.other W3 (Or.inr (slot_ne (Or.inr (hw _ (List.mem_of_getElem? (i := 66) rfl))) (Or.inr (hw _ (List.mem_of_getElem? (i := 64) rfl))) (by decide) (t := (.object "java/lang/String")) (t' := (.object "java/lang/String")) (by decide) (by decide)))
  have f5 := pF_a1_occurrence.other W3 (Or.inr (slot_ne (Or.inr (hw _ (List.mem_of_getElem? (i := 68) rfl))) (Or.inr (hw _ (List.mem_of_getElem? (i := 64) rfl))) (by decide) (t := (.object "com/example/estim365/estim365/cli/Option$Occurrence")) (t' := (.object "java/lang/String")) (by decide) (by decide)))
  have f6 := pF_a1_description.other W3 (Or.inr (slot_ne (Or.inr (hw _ (List.mem_of_getElem? (i := 70) rfl))) (Or.inr (hw _ (List.mem_of_getElem? (i := 64) rfl))) (by decide) (t := (.object "java/lang/String")) (t' := (.object "java/lang/String")) (by decide) (by decide)))
  have zz3 : n0 ≤ h3.size := Nat.le_trans Z0 (Nat.le_of_eq W3.size.symm)
  have N7 := Fr.snoc X3 N2 pg_a1
  have K8 : Keep h0 h3 [a1] := (Keep.refl h0 [a1]).wr W3 (Or.inl (List.mem_of_getElem? (i := 0) rfl))
  refine o_aloadN X3 hx (hb hby d_prog_5_method_1_code_9) (v := (.ref a1)) rfl rfl (n := 10) rfl ?_
  refine o_aloadN X3 hx (hb hby d_prog_5_method_1_code_10) (v := (.ref v1)) rfl rfl (n := 11) rfl ?_
  refine o_putfield X3 hx hZ hown (host := "") (Or.inl (hw _ (List.mem_of_getElem? (i := 65) rfl))) Via.refl e3 f4 E_3 (Or.inr ⟨(hw _ (List.mem_of_getElem? (i := 66) rfl)), rfl, hnm⟩) (hw _ (List.mem_of_getElem? (i := 52) rfl)) (ty := (.object "java/lang/String")) (by decide) rfl rfl (hb hby d_prog_5_method_1_code_11) (n := 14) rfl ?_
  intro T9 h9 X9 e9 W9 F9 E_9
  have f10 := F3.other W9 (Or.inr (slot_ne (Or.inr (hw _ (List.mem_of_getElem? (i := 64) rfl))) (Or.inr (hw _ (List.mem_of_getElem? (i := 66) rfl))) (by decide) (t := (.object "java/lang/String")) (t' := (.object "java/lang/String")) (by decide) (by decide)))
  have f11 := f5.other W9 (Or.inr (slot_ne (Or.inr (hw _ (List.mem_of_getElem? (i := 68) rfl))) (Or.inr (hw _ (List.mem_of_getElem? (i := 66) rfl))) (by decide) (t := (.object "com/example/estim365/estim365/cli/Option$Occurrence")) (t' := (.object "java/lang/String")) (by decide) (by decide)))
  have f12 := f6.other W9 (Or.inr (slot_ne (Or.inr (hw _ (List.mem_of_getElem? (i := 70) rfl))) (Or.inr (hw _ (List.mem_of_getElem? (i := 66) rfl))) (by decide) (t := (.object "java/lang/String")) (t' := (.object "java/lang/String")) (by decide) (by decide)))
  have zz9 : n0 ≤ h9.size := Nat.le_trans zz3 (Nat.le_of_eq W9.size.symm)
  have N13 := Fr.snoc X9 N7 pg_a1
  have K14 : Keep h0 h9 [a1] := K8.wr W9 (Or.inl (List.mem_of_getElem? (i := 0) rfl))
  refine o_aloadN X9 hx (hb hby d_prog_5_method_1_code_14) (v := (.ref a1)) rfl rfl (n := 15) rfl ?_
  refine o_aloadN X9 hx (hb hby d_prog_5_method_1_code_15) (v := (.ref o1)) rfl rfl (n := 16) rfl ?_
  refine o_putfield X9 hx hZ hown (host := "") (Or.inl (hw _ (List.mem_of_getElem? (i := 67) rfl))) Via.refl e9 f11 E_9 (Or.inr ⟨(hw _ (List.mem_of_getElem? (i := 68) rfl)), rfl, hnm⟩) (hw _ (List.mem_of_getElem? (i := 52) rfl)) (ty := (.object "com/example/estim365/estim365/cli/Option$Occurrence")) (by decide) rfl rfl (hb hby d_prog_5_method_1_code_16) (n := 19) rfl ?_
  intro T15 h15 X15 e15 W15 F15 E_15
  have f16 := f10.other W15 (Or.inr (slot_ne (Or.inr (hw _ (List.mem_of_getElem? (i := 64) rfl))) (Or.inr (hw _ (List.mem_of_getElem? (i := 68) rfl))) (by decide) (t := (.object "java/lang/String")) (t' := (.object "com/example/estim365/estim365/cli/Option$Occurrence")) (by decide) (by decide)))
  have f17 := F9.other W15 (Or.inr (slot_ne (Or.inr (hw _ (List.mem_of_getElem? (i := 66) rfl))) (Or.inr (hw _ (List.mem_of_getElem? (i := 68) rfl))) (by decide) (t := (.object "java/lang/String")) (t' := (.object "com/example/estim365/estim365/cli/Option$Occurrence")) (by decide) (by decide)))
  have f18 := f12.other W15 (Or.inr (slot_ne (Or.inr (hw _ (List.mem_of_getElem? (i := 70) rfl))) (Or.inr (hw _ (List.mem_of_getElem? (i := 68) rfl))) (by decide) (t := (.object "java/lang/String")) (t' := (.object "com/example/estim365/estim365/cli/Option$Occurrence")) (by decide) (by decide)))
  have zz15 : n0 ≤ h15.size := Nat.le_trans zz9 (Nat.le_of_eq W15.size.symm)
  have N19 := Fr.snoc X15 N13 pg_a1
  have K20 : Keep h0 h15 [a1] := K14.wr W15 (Or.inl (List.mem_of_getElem? (i := 0) rfl))
  refine o_aloadN X15 hx (hb hby d_prog_5_method_1_code_19) (v := (.ref a1)) rfl rfl (n := 20) rfl ?_
  refine o_aload X15 hx (hb hby d_prog_5_method_1_code_20) (v := (.ref d1)) rfl rfl (n := 22) rfl ?_
  refine o_putfield X15 hx hZ hown (host := "") (Or.inl (hw _ (List.mem_of_getElem? (i := 69) rfl))) Via.refl e15 f18 E_15 (Or.inr ⟨(hw _ (List.mem_of_getElem? (i := 70) rfl)), rfl, hnm⟩) (hw _ (List.mem_of_getElem? (i := 52) rfl)) (ty := (.object "java/lang/String")) (by decide) rfl rfl (hb hby d_prog_5_method_1_code_22) (n := 25) rfl ?_
  intro T21 h21 X21 e21 W21 F21 E_21
  have f22 := f16.other W21 (Or.inr (slot_ne (Or.inr (hw _ (List.mem_of_getElem? (i := 64) rfl))) (Or.inr (hw _ (List.mem_of_getElem? (i := 70) rfl))) (by decide) (t := (.object "java/lang/String")) (t' := (.object "java/lang/String")) (by decide) (by decide)))
  have f23 := f17.other W21 (Or.inr (slot_ne (Or.inr (hw _ (List.mem_of_getElem? (i := 66) rfl))) (Or.inr (hw _ (List.mem_of_getElem? (i := 70) rfl))) (by decide) (t := (.object "java/lang/String")) (t' := (.object "java/lang/String")) (by decide) (by decide)))
  have f24 := F15.other W21 (Or.inr (slot_ne (Or.inr (hw _ (List.mem_of_getElem? (i := 68) rfl))) (Or.inr (hw _ (List.mem_of_getElem? (i := 70) rfl))) (by decide) (t := (.object "com/example/estim365/estim365/cli/Option$Occurrence")) (t' := (.object "java/lang/String")) (by decide) (by decide)))
  have zz21 : n0 ≤ h21.size := Nat.le_trans zz15 (Nat.le_of_eq W21.size.symm)
  have N25 := Fr.snoc X21 N19 pg_a1
  have K26 : Keep h0 h21 [a1] := K20.wr W21 (Or.inl (List.mem_of_getElem? (i := 0) rfl))
  exact o_return X21 hx hret hlk (hb hby d_prog_5_method_1_code_25) (by decide) (by decide) e21 ⟨rfl, N25, K26, E_21, f22, f23, f24, F21⟩
theorem d_prog_5_method_7_code_0 : decode prog_5_method_7_code 0 = .ok (.aload_n 0, 1) := by decide +kernel
theorem d_prog_5_method_7_code_1 : decode prog_5_method_7_code 1 = .ok (.getfield 13, 3) := by decide +kernel
theorem d_prog_5_method_7_code_4 : decode prog_5_method_7_code 4 = .ok (.ifnonnull 7, 3) := by decide +kernel
theorem d_prog_5_method_7_code_7 : decode prog_5_method_7_code 7 = .ok (.iconst 1, 1) := by decide +kernel
theorem d_prog_5_method_7_code_8 : decode prog_5_method_7_code 8 = .ok (.goto 4, 3) := by decide +kernel
theorem d_prog_5_method_7_code_12 : decode prog_5_method_7_code 12 = .ok (.ireturn, 1) := by decide +kernel
theorem o_ef14 (m : MethodId) (a1 : Addr) : entryFrame m #[(.ref a1)] 1 = mkF m 0 #[.val (.ref a1)] [] := by first | (simp [entryFrame, mkF, argsToLocals, Value.category]; done) | rfl
set_option maxRecDepth 65536 in
set_option maxHeartbeats 40000000 in
theorem c_isf1 (l : Launch) (Z : State) (a0 : Array Value) (hw : ∀ d ∈ tables_1, d.before a0 Z = true) (a1 : Addr) (h0 : Heap) (pE_a1 : Exa Z h0 a1 "com/example/estim365/estim365/cli/Option") (pF_a1_value : Fld Z h0 a1 "com/example/estim365/estim365/cli/Option" "value" "Ljava/lang/String;" .null) :
    Does l Z (⟨"com/example/estim365/estim365/cli/Option", "isFlag", "()Z"⟩ : MethodName) prog_5_method_7_code 1 (some .boolean) [] ({ frames := 0, cells := 0, slots := 0, locals := 0 } : Room) #[(.ref a1)] h0 (Pur h0 (.int (1 : Int32))) := by
  refine Does.of (plainFor_of_name o_pn5) ?_
  intro p e s m below meth c T0 hx hby hml hown hnm hret hlk hZ X0 e0
  have hown : s.vm.findClass "com/example/estim365/estim365/cli/Option" = some m.cls := hown
  have hml : c.maxLocals = 1 := hml
  have hret : meth.sig.returnType = some .boolean := hret
  refine o_entry (o_ef14 m a1) ?_
  refine o_aloadN X0 hx (hb hby d_prog_5_method_7_code_0) (v := (.ref a1)) rfl rfl (n := 1) rfl ?_
  refine o_getfield X0 hx hZ hown (host := "") (Or.inl (hw _ (List.mem_of_getElem? (i := 65) rfl))) Via.refl e0 pF_a1_value (hb hby d_prog_5_method_7_code_1) (n := 4) rfl ?_
  intro T1 X1 e1
  refine o_ifnonnullN X1 hx (hb hby d_prog_5_method_7_code_4) (n := 7) rfl ?_
  refine o_iconst X1 hx (hb hby d_prog_5_method_7_code_7) (v := (1 : Int32)) rfl (n := 8) rfl ?_
  refine o_goto X1 hx (hb hby d_prog_5_method_7_code_8) (by decide) (n := 12) (by decide) ?_
  exact o_nreturn X1 hx hret hlk (t := .boolean) (by simp) (hb hby d_prog_5_method_7_code_12) (by decide) (by decide) e1 ⟨rfl, rfl, rfl⟩
theorem d_prog_5_method_7_code_11 : decode prog_5_method_7_code 11 = .ok (.iconst 0, 1) := by decide +kernel
theorem o_ef15 (m : MethodId) (a1 : Addr) : entryFrame m #[(.ref a1)] 1 = mkF m 0 #[.val (.ref a1)] [] := by first | (simp [entryFrame, mkF, argsToLocals, Value.category]; done) | rfl
set_option maxRecDepth 65536 in
set_option maxHeartbeats 40000000 in
theorem c_isf0 (l : Launch) (Z : State) (a0 : Array Value) (hw : ∀ d ∈ tables_1, d.before a0 Z = true) (a1 : Addr) (v1 : Addr) (h0 : Heap) (pE_a1 : Exa Z h0 a1 "com/example/estim365/estim365/cli/Option") (pF_a1_value : Fld Z h0 a1 "com/example/estim365/estim365/cli/Option" "value" "Ljava/lang/String;" (.ref v1)) :
    Does l Z (⟨"com/example/estim365/estim365/cli/Option", "isFlag", "()Z"⟩ : MethodName) prog_5_method_7_code 1 (some .boolean) [] ({ frames := 0, cells := 0, slots := 0, locals := 0 } : Room) #[(.ref a1)] h0 (Pur h0 (.int (0 : Int32))) := by
  refine Does.of (plainFor_of_name o_pn5) ?_
  intro p e s m below meth c T0 hx hby hml hown hnm hret hlk hZ X0 e0
  have hown : s.vm.findClass "com/example/estim365/estim365/cli/Option" = some m.cls := hown
  have hml : c.maxLocals = 1 := hml
  have hret : meth.sig.returnType = some .boolean := hret
  refine o_entry (o_ef15 m a1) ?_
  refine o_aloadN X0 hx (hb hby d_prog_5_method_7_code_0) (v := (.ref a1)) rfl rfl (n := 1) rfl ?_
  refine o_getfield X0 hx hZ hown (host := "") (Or.inl (hw _ (List.mem_of_getElem? (i := 65) rfl))) Via.refl e0 pF_a1_value (hb hby d_prog_5_method_7_code_1) (n := 4) rfl ?_
  intro T1 X1 e1
  refine o_ifnonnullY X1 hx (hb hby d_prog_5_method_7_code_4) (by decide) (n := 11) (by decide) ?_
  refine o_iconst X1 hx (hb hby d_prog_5_method_7_code_11) (v := (0 : Int32)) rfl (n := 12) rfl ?_
  exact o_nreturn X1 hx hret hlk (t := .boolean) (by simp) (hb hby d_prog_5_method_7_code_12) (by decide) (by decide) e1 ⟨rfl, rfl, rfl⟩
theorem d_prog_5_method_6_code_0 : decode prog_5_method_6_code 0 = .ok (.new 8, 3) := by decide +kernel
theorem d_prog_5_method_6_code_3 : decode prog_5_method_6_code 3 = .ok (.dup, 1) := by decide +kernel
theorem d_prog_5_method_6_code_4 : decode prog_5_method_6_code 4 = .ok (.aload_n 0, 1) := by decide +kernel
theorem d_prog_5_method_6_code_5 : decode prog_5_method_6_code 5 = .ok (.aconst_null, 1) := by decide +kernel
theorem d_prog_5_method_6_code_6 : decode prog_5_method_6_code 6 = .ok (.getstatic 31, 3) := by decide +kernel
theorem d_prog_5_method_6_code_9 : decode prog_5_method_6_code 9 = .ok (.aload_n 1, 1) := by decide +kernel
theorem d_prog_5_method_6_code_10 : decode prog_5_method_6_code 10 = .ok (.invokespecial 28, 3) := by decide +kernel
theorem o_pd8 : parseMethodDescriptor "(Ljava/lang/String;Ljava/lang/String;Lcom/example/estim365/estim365/cli/Option$Occurrence;Ljava/lang/String;)V" = some ⟨[(.object "java/lang/String"), (.object "java/lang/String"), (.object "com/example/estim365/estim365/cli/Option$Occurrence"), (.object "java/lang/String")], none⟩ := by decide +kernel
theorem d_prog_5_method_6_code_13 : decode prog_5_method_6_code 13 = .ok (.areturn, 1) := by decide +kernel
theorem o_ef16 (m : MethodId) (m1 : Addr) (d1 : Addr) : entryFrame m #[(.ref m1), (.ref d1)] 2 = mkF m 0 #[.val (.ref m1), .val (.ref d1)] [] := by first | (simp [entryFrame, mkF, argsToLocals, Value.category]; done) | rfl
set_option maxRecDepth 65536 in
set_option maxHeartbeats 40000000 in
theorem c_flag (l : Launch) (Z : State) (a0 : Array Value) (hw : ∀ d ∈ tables_1, d.before a0 Z = true) (m1 : Addr) (d1 : Addr) (x1 : Addr) (h0 : Heap) (n0 : Nat) (Z0 : n0 ≤ h0.size) (pS_OPTIONAL : Sta Z h0 "com/example/estim365/estim365/cli/Option$Occurrence" "OPTIONAL" "Lcom/example/estim365/estim365/cli/Option$Occurrence;" (.ref x1)) :
    Does l Z (⟨"com/example/estim365/estim365/cli/Option", "flag", "(Ljava/lang/String;Ljava/lang/String;)Lcom/example/estim365/estim365/cli/Option;"⟩ : MethodName) prog_5_method_6_code 2 (some (.object "com/example/estim365/estim365/cli/Option")) [] ({ frames := 3, cells := 1, slots := 4, locals := 41 } : Room) #[(.ref m1), (.ref d1)] h0 (fun v h L => ∃ (n1 : Addr), v = some (.ref n1) ∧ Fr n0 L ∧ Keep h0 h [] ∧ h0.size ≤ n1 ∧ Exa Z h n1 "com/example/estim365/estim365/cli/Option" ∧ Fld Z h n1 "com/example/estim365/estim365/cli/Option" "value" "Ljava/lang/String;" .null) := by
  refine Does.of (plainFor_of_name o_pn5) ?_
  intro p e s m below meth c T0 hx hby hml hown hnm hret hlk hZ X0 e0
  have hown : s.vm.findClass "com/example/estim365/estim365/cli/Option" = some m.cls := hown
  have hml : c.maxLocals = 2 := hml
  have hret : meth.sig.returnType = some (.object "com/example/estim365/estim365/cli/Option") := hret
  refine o_entry (o_ef16 m m1 d1) ?_
  have N0 := Fr.nil n0
  refine o_new X0 hx hZ hown (hw _ (List.mem_of_getElem? (i := 206) rfl)) (hw _ (List.mem_of_getElem? (i := 52) rfl)) (hw _ (List.mem_of_getElem? (i := 53) rfl)) e0 (hb hby d_prog_5_method_6_code_0) (by decide) (by decide) (n := 3) rfl ?_
  intro T1 h1 b1 X1 e1 g1 E1 A1 D1
  have gg1 : n0 ≤ b1 := Nat.le_trans Z0 (Nat.le_of_eq g1.symm)
  have zz1 : n0 ≤ h1.size := Nat.le_trans Z0 E1.1
  have sz1 : h0.size ≤ b1 := Nat.le_trans (Keep.refl h0 []).1 (Nat.le_of_eq g1.symm)
  have f2 := pS_OPTIONAL.ext E1
  have K3 : Keep h0 h1 [] := (Keep.refl h0 []).ext E1
  have f4 : Fld Z h1 b1 "com/example/estim365/estim365/cli/Option" "name" "Ljava/lang/String;" .null := D1 (Or.inr (hw _ (List.mem_of_getElem? (i := 64) rfl))) (ty := (.object "java/lang/String")) (by decide)
  have f5 : Fld Z h1 b1 "com/example/estim365/estim365/cli/Option" "value" "Ljava/lang/String;" .null := D1 (Or.inr (hw _ (List.mem_of_getElem? (i := 66) rfl))) (ty := (.object "java/lang/String")) (by decide)
  have f6 : Fld Z h1 b1 "com/example/estim365/estim365/cli/Option" "occurrence" "Lcom/example/estim365/estim365/cli/Option$Occurrence;" .null := D1 (Or.inr (hw _ (List.mem_of_getElem? (i := 68) rfl))) (ty := (.object "com/example/estim365/estim365/cli/Option$Occurrence")) (by decide)
  have f7 : Fld Z h1 b1 "com/example/estim365/estim365/cli/Option" "description" "Ljava/lang/String;" .null := D1 (Or.inr (hw _ (List.mem_of_getElem? (i := 70) rfl))) (ty := (.object "java/lang/String")) (by decide)
  refine o_dup X1 hx (hb hby d_prog_5_method_6_code_3) rfl (n := 4) rfl ?_
  refine o_aloadN X1 hx (hb hby d_prog_5_method_6_code_4) (v := (.ref m1)) rfl rfl (n := 5) rfl ?_
  refine o_aconst_null X1 hx (hb hby d_prog_5_method_6_code_5) (n := 6) rfl ?_
  refine o_getstatic X1 hx hZ hown (host := "") (Or.inl (hw _ (List.mem_of_getElem? (i := 207) rfl))) Via.refl e1 f2 (hb hby d_prog_5_method_6_code_6) (n := 9) rfl ?_
  intro T8 X8 e8
  refine o_aloadN X8 hx (hb hby d_prog_5_method_6_code_9) (v := (.ref d1)) rfl rfl (n := 10) rfl ?_
  refine o_callN X8 hx hZ rfl hown (hw _ (List.mem_of_getElem? (i := 209) rfl)) (hw _ (List.mem_of_getElem? (i := 55) rfl)) (hw _ (List.mem_of_getElem? (i := 53) rfl)) (hw _ (List.mem_of_getElem? (i := 56) rfl)) (by decide) e8 (a := b1) (argsL := [(.ref m1), .null, (.ref x1), (.ref d1)]) (rest := [(.ref b1)]) (c_opi1 l Z a0 hw b1 m1 x1 d1 h1 n0 zz1 gg1 A1 f4 f5 f6 f7) 1 (by decide) (by decide) (by decide) (by decide) (by rw [hml]; rfl) (lenOf o_pd8 rfl) rfl (Nat.le_of_eq rfl) (hb hby d_prog_5_method_6_code_10) (n := 13) rfl ?_
  intro v9 T9 L9 X9 q9
  obtain ⟨rfl, Nq9, K9, o9_0, o9_1, o9_2, o9_3, o9_4⟩ := q9
  have N10 := Fr.app N0 Nq9
  have f11 := o_sta_keep f2 K9 (allS (P := fun a => ∀ cl : Cell, h1[a]? = some cl → cl.vm.isStatics = false) (o_exa_ns A1) all0)
  have f12 := A1.keep K9
  have zz9 : n0 ≤ T9.heap.size := Nat.le_trans zz1 K9.1
  have K17 : Keep h0 T9.heap [] := K3.trans K9 (allS (P := fun x => x ∈ [] ∨ h0.size ≤ x) (Or.inr sz1) all0)
  show Goes _ _ p e below s _ _ _ (T9.setTop (mkF m 13 #[.val (.ref m1), .val (.ref d1)] [(.ref b1)]))
  exact o_areturn X9 hx hret hlk rfl rfl (hb hby d_prog_5_method_6_code_13) (by decide) (by decide) (rfl : T9.heap = T9.heap) ⟨b1, rfl, N10, K17, sz1, o9_0, o9_2⟩
theorem d_jdk_68_method_2_code_0 : decode jdk_68_method_2_code 0 = .ok (.aload_n 0, 1) := by decide +kernel
theorem d_jdk_68_method_2_code_1 : decode jdk_68_method_2_code 1 = .ok (.invokespecial 3, 3) := by decide +kernel
theorem d_jdk_68_method_2_code_4 : decode jdk_68_method_2_code 4 = .ok (.getstatic 18, 3) := by decide +kernel
theorem d_jdk_68_method_2_code_7 : decode jdk_68_method_2_code 7 = .ok (.ifCond .eq 18, 3) := by decide +kernel
theorem d_jdk_68_method_2_code_10 : decode jdk_68_method_2_code 10 = .ok (.aload_n 0, 1) := by decide +kernel
theorem d_jdk_68_method_2_code_11 : decode jdk_68_method_2_code 11 = .ok (.iload_n 1, 1) := by decide +kernel
theorem d_jdk_68_method_2_code_12 : decode jdk_68_method_2_code 12 = .ok (.newarray .byte, 2) := by decide +kernel
theorem d_jdk_68_method_2_code_14 : decode jdk_68_method_2_code 14 = .ok (.putfield 15, 3) := by decide +kernel
theorem d_jdk_68_method_2_code_17 : decode jdk_68_method_2_code 17 = .ok (.aload_n 0, 1) := by decide +kernel
theorem d_jdk_68_method_2_code_18 : decode jdk_68_method_2_code 18 = .ok (.iconst 0, 1) := by decide +kernel
theorem d_jdk_68_method_2_code_19 : decode jdk_68_method_2_code 19 = .ok (.putfield 22, 3) := by decide +kernel
theorem d_jdk_68_method_2_code_22 : decode jdk_68_method_2_code 22 = .ok (.goto 16, 3) := by decide +kernel
theorem d_jdk_68_method_2_code_38 : decode jdk_68_method_2_code 38 = .ok (.return_, 1) := by decide +kernel
theorem o_ef17 (m : MethodId) (a1 : Addr) : entryFrame m #[(.ref a1), (.int (16 : Int32))] 2 = mkF m 0 #[.val (.ref a1), .val (.int (16 : Int32))] [] := by first | (simp [entryFrame, mkF, argsToLocals, Value.category]; done) | rfl
theorem o_pn6 : plainName "java/lang/AbstractStringBuilder" = true := by first | (simp [plainName, overriddenIn]; done) | decide +kernel
set_option maxRecDepth 65536 in
set_option maxHeartbeats 40000000 in
theorem c_abi (l : Launch) (Z : State) (a0 : Array Value) (hw : ∀ d ∈ tables_1, d.before a0 Z = true) (a1 : Addr) (cs : Int32) (h0 : Heap) (n0 : Nat) (Z0 : n0 ≤ h0.size) (pg_a1 : n0 ≤ a1) (pE_a1 : Exa Z h0 a1 "java/lang/StringBuilder") (pF_a1_value : Fld Z h0 a1 "java/lang/AbstractStringBuilder" "value" "[B" .null) (pF_a1_coder : Fld Z h0 a1 "java/lang/AbstractStringBuilder" "coder" "B" (.int (0 : Int32))) (pF_a1_count : Fld Z h0 a1 "java/lang/AbstractStringBuilder" "count" "I" (.int (0 : Int32))) (pS_COMPACT_STRINGS : Sta Z h0 "java/lang/String" "COMPACT_STRINGS" "Z" (.int cs)) (hcs : ¬ cs = (0 : Int32)) :
    Does l Z (⟨"java/lang/AbstractStringBuilder", "<init>", "(I)V"⟩ : MethodName) jdk_68_method_2_code 2 none [] ({ frames := 1, cells := 1, slots := 16, locals := 12 } : Room) #[(.ref a1), (.int (16 : Int32))] h0 (fun v h L => ∃ (n1 : Addr) (kn : ClassId), v = none ∧ Fr n0 L ∧ Keep h0 h [a1] ∧ h0.size ≤ n1 ∧ Exa Z h a1 "java/lang/StringBuilder" ∧ Fld Z h a1 "java/lang/AbstractStringBuilder" "value" "[B" (.ref n1) ∧ Fld Z h a1 "java/lang/AbstractStringBuilder" "coder" "B" (.int (0 : Int32)) ∧ Fld Z h a1 "java/lang/AbstractStringBuilder" "count" "I" (.int (0 : Int32)) ∧ Arv Z h n1 kn .byte (16 : Int32) [(.int (0 : Int32)), (.int (0 : Int32)), (.int (0 : Int32)), (.int (0 : Int32)), (.int (0 : Int32)), (.int (0 : Int32)), (.int (0 : Int32)), (.int (0 : Int32)), (.int (0 : Int32)), (.int (0 : Int32)), (.int (0 : Int32)), (.int (0 : Int32)), (.int (0 : Int32)), (.int (0 : Int32)), (.int (0 : Int32)), (.int (0 : Int32))] (.int (0 : Int32))) := by
  refine Does.of (plainFor_of_name o_pn6) ?_
  intro p e s m below meth c T0 hx hby hml hown hnm hret hlk hZ X0 e0
  have hown : s.vm.findClass "java/lang/AbstractStringBuilder" = some m.cls := hown
  have hml : c.maxLocals = 2 := hml
  have hret : meth.sig.returnType = none := hret
  refine o_entry (o_ef17 m a1) ?_
  have N0 := Fr.nil n0
  refine o_aloadN X0 hx (hb hby d_jdk_68_method_2_code_0) (v := (.ref a1)) rfl rfl (n := 1) rfl ?_
  refine o_initO X0 hx hZ hown (hw _ (List.mem_of_getElem? (i := 94) rfl)) (hw _ (List.mem_of_getElem? (i := 12) rfl)) (hw _ (List.mem_of_getElem? (i := 13) rfl)) e0 (by rw [hml]; rfl) (hb hby d_jdk_68_method_2_code_1) (by decide) 0 (Nat.le_of_eq rfl) (by decide) (n := 4) rfl ?_
  intro T1 X1 e1
  refine o_getstatic X1 hx hZ hown (host := "") (Or.inl (hw _ (List.mem_of_getElem? (i := 95) rfl))) Via.refl e1 pS_COMPACT_STRINGS (hb hby d_jdk_68_method_2_code_4) (n := 7) rfl ?_
  intro T2 X2 e2
  refine o_ifN X2 hx (hb hby d_jdk_68_method_2_code_7) (XT.i0_eq_f hcs) (n := 10) rfl ?_
  refine o_aloadN X2 hx (hb hby d_jdk_68_method_2_code_10) (v := (.ref a1)) rfl rfl (n := 11) rfl ?_
  refine o_iloadN X2 hx (hb hby d_jdk_68_method_2_code_11) (v := (16 : Int32)) rfl (n := 12) rfl ?_
  refine o_newarray X2 hx hZ (aty := .byte) (hw _ (List.mem_of_getElem? (i := 19) rfl)) e2 (hb hby d_jdk_68_method_2_code_12) (by decide) 16 (by decide) (by decide) (by decide) (by decide) (n := 14) rfl ?_
  intro T3 h3 b3 k3 X3 e3 g3 E3 V3
  have ne4 : a1 ≠ b3 := Nat.ne_of_lt (Nat.lt_of_lt_of_eq pE_a1.lt g3.symm)
  have gg3 : n0 ≤ b3 := Nat.le_trans Z0 (Nat.le_of_eq g3.symm)
  have zz3 : n0 ≤ h3.size := Nat.le_trans Z0 E3.1
  have sz3 : h0.size ≤ b3 := Nat.le_trans (Keep.refl h0 [a1]).1 (Nat.le_of_eq g3.symm)
  have f5 := pE_a1.ext E3
  have f6 := pF_a1_value.ext E3
  have f7 := pF_a1_coder.ext E3
  have f8 := pF_a1_count.ext E3
  have f9 := pS_COMPACT_STRINGS.ext E3
  have K10 : Keep h0 h3 [a1] := (Keep.refl h0 [a1]).ext E3
  have f11 : Arv Z h3 b3 k3 .byte (16 : Int32) [(.int (0 : Int32)), (.int (0 : Int32)), (.int (0 : Int32)), (.int (0 : Int32)), (.int (0 : Int32)), (.int (0 : Int32)), (.int (0 : Int32)), (.int (0 : Int32)), (.int (0 : Int32)), (.int (0 : Int32)), (.int (0 : Int32)), (.int (0 : Int32)), (.int (0 : Int32)), (.int (0 : Int32)), (.int (0 : Int32)), (.int (0 : Int32))] (.int (0 : Int32)) := V3.pad (pad_rep [] (.int (0 : Int32)) 16)
  refine o_putfield X3 hx hZ hown (host := "") (Or.inl (hw _ (List.mem_of_getElem? (i := 96) rfl))) Via.refl e3 f6 f5 (Or.inl (hw _ (List.mem_of_getElem? (i := 97) rfl))) (hw _ (List.mem_of_getElem? (i := 83) rfl)) (ty := (.array .byte)) (by decide) rfl rfl (hb hby d_jdk_68_method_2_code_14) (n := 17) rfl ?_
  intro T12 h12 X12 e12 W12 F12 E_12
  have f13 := f7.other W12 (Or.inr (slot_ne (Or.inl (hw _ (List.mem_of_getElem? (i := 99) rfl))) (Or.inl (hw _ (List.mem_of_getElem? (i := 97) rfl))) (by decide) (t := .byte) (t' := (.array .byte)) (by decide) (by decide)))
  have f14 := f8.other W12 (Or.inr (slot_ne (Or.inl (hw _ (List.mem_of_getElem? (i := 121) rfl))) (Or.inl (hw _ (List.mem_of_getElem? (i := 97) rfl))) (by decide) (t := .int) (t' := (.array .byte)) (by decide) (by decide)))
  have f15 := f9.wr W12
  have f16 := f11.other W12 (Ne.symm ne4)
  have zz12 : n0 ≤ h12.size := Nat.le_trans zz3 (Nat.le_of_eq W12.size.symm)
  have N17 := Fr.snoc X12 N0 pg_a1
  have K18 : Keep h0 h12 [a1] := K10.wr W12 (Or.inl (List.mem_of_getElem? (i := 0) rfl))
  refine o_aloadN X12 hx (hb hby d_jdk_68_method_2_code_17) (v := (.ref a1)) rfl rfl (n := 18) rfl ?_
  refine o_iconst X12 hx (hb hby d_jdk_68_method_2_code_18) (v := (0 : Int32)) rfl (n := 19) rfl ?_
  refine o_putfield X12 hx hZ hown (host := "") (Or.inl (hw _ (List.mem_of_getElem? (i := 98) rfl))) Via.refl e12 f13 E_12 (Or.inl (hw _ (List.mem_of_getElem? (i := 99) rfl))) (hw _ (List.mem_of_getElem? (i := 83) rfl)) (ty := .byte) (by decide) rfl rfl (hb hby d_jdk_68_method_2_code_19) (n := 22) rfl ?_
  intro T19 h19 X19 e19 W19 F19 E_19
  have f20 := F12.other W19 (Or.inr (slot_ne (Or.inl (hw _ (List.mem_of_getElem? (i := 97) rfl))) (Or.inl (hw _ (List.mem_of_getElem? (i := 99) rfl))) (by decide) (t := (.array .byte)) (t' := .byte) (by decide) (by decide)))
  have f21 := f14.other W19 (Or.inr (slot_ne (Or.inl (hw _ (List.mem_of_getElem? (i := 121) rfl))) (Or.inl (hw _ (List.mem_of_getElem? (i := 99) rfl))) (by decide) (t := .int) (t' := .byte) (by decide) (by decide)))
  have f22 := f15.wr W19
  have f23 := f16.other W19 (Ne.symm ne4)
  have zz19 : n0 ≤ h19.size := Nat.le_trans zz12 (Nat.le_of_eq W19.size.symm)
  have N24 := Fr.snoc X19 N17 pg_a1
  have K25 : Keep h0 h19 [a1] := K18.wr W19 (Or.inl (List.mem_of_getElem? (i := 0) rfl))
  refine o_goto X19 hx (hb hby d_jdk_68_method_2_code_22) (by decide) (n := 38) (by decide) ?_
  exact o_return X19 hx hret hlk (hb hby d_jdk_68_method_2_code_38) (by decide) (by decide) e19 ⟨b3, k3, rfl, N24, K25, sz3, E_19, f20, F19, f21, f23⟩
theorem d_jdk_67_method_1_code_0 : decode jdk_67_method_1_code 0 = .ok (.aload_n 0, 1) := by decide +kernel
theorem d_jdk_67_method_1_code_1 : decode jdk_67_method_1_code 1 = .ok (.bipush 16, 2) := by decide +kernel
theorem d_jdk_67_method_1_code_3 : decode jdk_67_method_1_code 3 = .ok (.invokespecial 1, 3) := by decide +kernel
theorem o_pd9 : parseMethodDescriptor "(I)V" = some ⟨[.int], none⟩ := by decide +kernel
theorem d_jdk_67_method_1_code_6 : decode jdk_67_method_1_code 6 = .ok (.return_, 1) := by decide +kernel
theorem o_ef18 (m : MethodId) (a1 : Addr) : entryFrame m #[(.ref a1)] 1 = mkF m 0 #[.val (.ref a1)] [] := by first | (simp [entryFrame, mkF, argsToLocals, Value.category]; done) | rfl
theorem o_pn7 : plainName "java/lang/StringBuilder" = true := by first | (simp [plainName, overriddenIn]; done) | decide +kernel
set_option maxRecDepth 65536 in
set_option maxHeartbeats 40000000 in
theorem c_sbi (l : Launch) (Z : State) (a0 : Array Value) (hw : ∀ d ∈ tables_1, d.before a0 Z = true) (a1 : Addr) (cs : Int32) (h0 : Heap) (n0 : Nat) (Z0 : n0 ≤ h0.size) (pg_a1 : n0 ≤ a1) (pE_a1 : Exa Z h0 a1 "java/lang/StringBuilder") (pF_a1_value : Fld Z h0 a1 "java/lang/AbstractStringBuilder" "value" "[B" .null) (pF_a1_coder : Fld Z h0 a1 "java/lang/AbstractStringBuilder" "coder" "B" (.int (0 : Int32))) (pF_a1_count : Fld Z h0 a1 "java/lang/AbstractStringBuilder" "count" "I" (.int (0 : Int32))) (pS_COMPACT_STRINGS : Sta Z h0 "java/lang/String" "COMPACT_STRINGS" "Z" (.int cs)) (hcs : ¬ cs = (0 : Int32)) :
    Does l Z (⟨"java/lang/StringBuilder", "<init>", "()V"⟩ : MethodName) jdk_67_method_1_code 1 none [] ({ frames := 2, cells := 1, slots := 16, locals := 25 } : Room) #[(.ref a1)] h0 (fun v h L => ∃ (n1 : Addr) (kn : ClassId), v = none ∧ Fr n0 L ∧ Keep h0 h [a1] ∧ h0.size ≤ n1 ∧ Exa Z h a1 "java/lang/StringBuilder" ∧ Fld Z h a1 "java/lang/AbstractStringBuilder" "value" "[B" (.ref n1) ∧ Fld Z h a1 "java/lang/AbstractStringBuilder" "coder" "B" (.int (0 : Int32)) ∧ Fld Z h a1 "java/lang/AbstractStringBuilder" "count" "I" (.int (0 : Int32)) ∧ Arv Z h n1 kn .byte (16 : Int32) [(.int (0 : Int32)), (.int (0 : Int32)), (.int (0 : Int32)), (.int (0 : Int32)), (.int (0 : Int32)), (.int (0 : Int32)), (.int (0 : Int32)), (.int (0 : Int32)), (.int (0 : Int32)), (.int (0 : Int32)), (.int (0 : Int32)), (.int (0 : Int32)), (.int (0 : Int32)), (.int (0 : Int32)), (.int (0 : Int32)), (.int (0 : Int32))] (.int (0 : Int32))) := by
  refine Does.of (plainFor_of_name o_pn7) ?_
  intro p e s m below meth c T0 hx hby hml hown hnm hret hlk hZ X0 e0
  have hown : s.vm.findClass "java/lang/StringBuilder" = some m.cls := hown
  have hml : c.maxLocals = 1 := hml
  have hret : meth.sig.returnType = none := hret
  refine o_entry (o_ef18 m a1) ?_
  have N0 := Fr.nil n0
  refine o_aloadN X0 hx (hb hby d_jdk_67_method_1_code_0) (v := (.ref a1)) rfl rfl (n := 1) rfl ?_
  refine o_bipush X0 hx (hb hby d_jdk_67_method_1_code_1) (v := (16 : Int32)) rfl (n := 3) rfl ?_
  refine o_callN X0 hx hZ rfl hown (hw _ (List.mem_of_getElem? (i := 88) rfl)) (hw _ (List.mem_of_getElem? (i := 89) rfl)) (hw _ (List.mem_of_getElem? (i := 92) rfl)) (hw _ (List.mem_of_getElem? (i := 93) rfl)) (by decide) e0 (a := a1) (argsL := [(.int (16 : Int32))]) (rest := []) (c_abi l Z a0 hw a1 cs h0 n0 Z0 pg_a1 pE_a1 pF_a1_value pF_a1_coder pF_a1_count pS_COMPACT_STRINGS hcs) 0 (by decide) (by decide) (by decide) (by decide) (by rw [hml]; rfl) (lenOf o_pd9 rfl) rfl (Nat.le_of_eq rfl) (hb hby d_jdk_67_method_1_code_3) (n := 6) rfl ?_
  intro v1 T1 L1 X1 q1
  obtain ⟨n1_1, kn_1, rfl, Nq1, K1, sq1_n1, o1_0, o1_1, o1_2, o1_3, o1_4⟩ := q1
  have N2 := Fr.app N0 Nq1
  have ne3 : a1 ≠ n1_1 := Nat.ne_of_lt (Nat.lt_of_lt_of_le pE_a1.lt sq1_n1)
  have gg1_n1 : n0 ≤ n1_1 := Nat.le_trans Z0 sq1_n1
  have sz1_n1 : h0.size ≤ n1_1 := Nat.le_trans (Keep.refl h0 [a1]).1 sq1_n1
  have f4 := pE_a1.keep K1
  have f8 := o_sta_keep pS_COMPACT_STRINGS K1 (allS (P := fun a => ∀ cl : Cell, h0[a]? = some cl → cl.vm.isStatics = false) (o_exa_ns pE_a1) all0)
  have zz1 : n0 ≤ T1.heap.size := Nat.le_trans Z0 K1.1
  have K9 : Keep h0 T1.heap [a1] := (Keep.refl h0 [a1]).trans K1 (allS (P := fun x => x ∈ [a1] ∨ h0.size ≤ x) (Or.inl (List.mem_of_getElem? (i := 0) rfl)) all0)
  show Goes _ _ p e below s _ _ _ (T1.setTop (mkF m 6 #[.val (.ref a1)] []))
  exact o_return X1 hx hret hlk (hb hby d_jdk_67_method_1_code_6) (by decide) (by decide) (rfl : T1.heap = T1.heap) ⟨n1_1, kn_1, rfl, N2, K9, sz1_n1, o1_0, o1_1, o1_2, o1_3, o1_4⟩
theorem d_jdk_42_method_152_code_0 : decode jdk_42_method_152_code 0 = .ok (.getstatic 38, 3) := by decide +kernel
theorem d_jdk_42_method_152_code_3 : decode jdk_42_method_152_code 3 = .ok (.ifCond .eq 10, 3) := by decide +kernel
theorem d_jdk_42_method_152_code_6 : decode jdk_42_method_152_code 6 = .ok (.aload_n 0, 1) := by decide +kernel
theorem d_jdk_42_method_152_code_7 : decode jdk_42_method_152_code 7 = .ok (.getfield 15, 3) := by decide +kernel
theorem d_jdk_42_method_152_code_10 : decode jdk_42_method_152_code 10 = .ok (.goto 4, 3) := by decide +kernel
theorem d_jdk_42_method_152_code_14 : decode jdk_42_method_152_code 14 = .ok (.ireturn, 1) := by decide +kernel
theorem o_ef19 (m : MethodId) (a1 : Addr) : entryFrame m #[(.ref a1)] 1 = mkF m 0 #[.val (.ref a1)] [] := by first | (simp [entryFrame, mkF, argsToLocals, Value.category]; done) | rfl
set_option maxRecDepth 65536 in
set_option maxHeartbeats 40000000 in
theorem c_cod (l : Launch) (Z : State) (a0 : Array Value) (hw : ∀ d ∈ tables_1, d.before a0 Z = true) (a1 : Addr) (cs : Int32) (h0 : Heap) (pF_a1_coder : Fld Z h0 a1 "java/lang/String" "coder" "B" (.int (0 : Int32))) (pS_COMPACT_STRINGS : Sta Z h0 "java/lang/String" "COMPACT_STRINGS" "Z" (.int cs)) (hcs : ¬ cs = (0 : Int32)) :
    Does l Z (⟨"java/lang/String", "coder", "()B"⟩ : MethodName) jdk_42_method_152_code 1 (some .byte) [] ({ frames := 0, cells := 0, slots := 0, locals := 0 } : Room) #[(.ref a1)] h0 (Pur h0 (.int (0 : Int32))) := by
  refine Does.of (plainFor_of_name o_pn1) ?_
  intro p e s m below meth c T0 hx hby hml hown hnm hret hlk hZ X0 e0
  have hown : s.vm.findClass "java/lang/String" = some m.cls := hown
  have hml : c.maxLocals = 1 := hml
  have hret : meth.sig.returnType = some .byte := hret
  refine o_entry (o_ef19 m a1) ?_
  refine o_getstatic X0 hx hZ hown (host := "") (Or.inl (hw _ (List.mem_of_getElem? (i := 14) rfl))) Via.refl e0 pS_COMPACT_STRINGS (hb hby d_jdk_42_method_152_code_0) (n := 3) rfl ?_
  intro T1 X1 e1
  refine o_ifN X1 hx (hb hby d_jdk_42_method_152_code_3) (XT.i0_eq_f hcs) (n := 6) rfl ?_
  refine o_aloadN X1 hx (hb hby d_jdk_42_method_152_code_6) (v := (.ref a1)) rfl rfl (n := 7) rfl ?_
  refine o_getfield X1 hx hZ hown (host := "") (Or.inl (hw _ (List.mem_of_getElem? (i := 26) rfl))) Via.refl e1 pF_a1_coder (hb hby d_jdk_42_method_152_code_7) (n := 10) rfl ?_
  intro T2 X2 e2
  refine o_goto X2 hx (hb hby d_jdk_42_method_152_code_10) (by decide) (n := 14) (by decide) ?_
  exact o_nreturn X2 hx hret hlk (t := .byte) (by simp) (hb hby d_jdk_42_method_152_code_14) (by decide) (by decide) e2 ⟨rfl, rfl, rfl⟩
theorem d_jdk_42_method_54_code_0 : decode jdk_42_method_54_code 0 = .ok (.aload_n 0, 1) := by decide +kernel
theorem d_jdk_42_method_54_code_1 : decode jdk_42_method_54_code 1 = .ok (.getfield 9, 3) := by decide +kernel
theorem d_jdk_42_method_54_code_4 : decode jdk_42_method_54_code 4 = .ok (.arraylength, 1) := by decide +kernel
theorem d_jdk_42_method_54_code_5 : decode jdk_42_method_54_code 5 = .ok (.aload_n 0, 1) := by decide +kernel
theorem d_jdk_42_method_54_code_6 : decode jdk_42_method_54_code 6 = .ok (.invokevirtual 335, 3) := by decide +kernel
theorem o_pd10 : parseMethodDescriptor "()B" = some ⟨[], some .byte⟩ := by decide +kernel
theorem d_jdk_42_method_54_code_9 : decode jdk_42_method_54_code 9 = .ok (.ishr, 1) := by decide +kernel
theorem d_jdk_42_method_54_code_10 : decode jdk_42_method_54_code 10 = .ok (.ireturn, 1) := by decide +kernel
theorem o_ef20 (m : MethodId) (a1 : Addr) : entryFrame m #[(.ref a1)] 1 = mkF m 0 #[.val (.ref a1)] [] := by first | (simp [entryFrame, mkF, argsToLocals, Value.category]; done) | rfl
set_option maxRecDepth 65536 in
set_option maxHeartbeats 40000000 in
theorem c_len0 (l : Launch) (Z : State) (a0 : Array Value) (hw : ∀ d ∈ tables_1, d.before a0 Z = true) (a1 : Addr) (b : Addr) (kb : ClassId) (vs : List Value) (cs : Int32) (h0 : Heap) (pE_a1 : Exa Z h0 a1 "java/lang/String") (pF_a1_coder : Fld Z h0 a1 "java/lang/String" "coder" "B" (.int (0 : Int32))) (pF_a1_value : Fld Z h0 a1 "java/lang/String" "value" "[B" (.ref b)) (pV_b : Arv Z h0 b kb .byte (0 : Int32) vs (.int (0 : Int32))) (pS_COMPACT_STRINGS : Sta Z h0 "java/lang/String" "COMPACT_STRINGS" "Z" (.int cs)) (hcs : ¬ cs = (0 : Int32)) :
    Does l Z (⟨"java/lang/String", "length", "()I"⟩ : MethodName) jdk_42_method_54_code 1 (some .int) [] ({ frames := 1, cells := 0, slots := 0, locals := 13 } : Room) #[(.ref a1)] h0 (Pur h0 (.int (0 : Int32))) := by
  refine Does.of (plainFor_of_name o_pn1) ?_
  intro p e s m below meth c T0 hx hby hml hown hnm hret hlk hZ X0 e0
  have hown : s.vm.findClass "java/lang/String" = some m.cls := hown
  have hml : c.maxLocals = 1 := hml
  have hret : meth.sig.returnType = some .int := hret
  refine o_entry (o_ef20 m a1) ?_
  refine o_aloadN X0 hx (hb hby d_jdk_42_method_54_code_0) (v := (.ref a1)) rfl rfl (n := 1) rfl ?_
  refine o_getfield X0 hx hZ hown (host := "") (Or.inl (hw _ (List.mem_of_getElem? (i := 28) rfl))) Via.refl e0 pF_a1_value (hb hby d_jdk_42_method_54_code_1) (n := 4) rfl ?_
  intro T1 X1 e1
  refine o_arraylength X1 hx hZ e1 pV_b (hb hby d_jdk_42_method_54_code_4) (n := 5) rfl ?_
  refine o_aloadN X1 hx (hb hby d_jdk_42_method_54_code_5) (v := (.ref a1)) rfl rfl (n := 6) rfl ?_
  refine o_callV X1 hx hZ hown (hw _ (List.mem_of_getElem? (i := 115) rfl)) (hw _ (List.mem_of_getElem? (i := 116) rfl)) (hw _ (List.mem_of_getElem? (i := 118) rfl)) (hw _ (List.mem_of_getElem? (i := 117) rfl)) (hw _ (List.mem_of_getElem? (i := 3) rfl)) (hw _ (List.mem_of_getElem? (i := 119) rfl)) (by decide) e1 pE_a1 (argsL := []) (rest := [(.int (0 : Int32))]) (c_cod l Z a0 hw a1 cs h0 pF_a1_coder pS_COMPACT_STRINGS hcs) 1 (by decide) (by decide) (by decide) (by decide) (by rw [hml]; rfl) (lenOf o_pd10 rfl) rfl (Nat.le_of_eq rfl) (hb hby d_jdk_42_method_54_code_6) (n := 9) rfl ?_
  intro v2 T2 L2 X2 q2
  obtain ⟨rfl, e2, rfl⟩ := q2
  show Goes _ _ p e below s _ _ _ (T2.setTop (mkF m 9 #[.val (.ref a1)] [(.int (0 : Int32)), (.int (0 : Int32))]))
  refine o_ishr X2 hx (hb hby d_jdk_42_method_54_code_9) (v := (0 : Int32)) (by decide) (n := 10) rfl ?_
  exact o_ireturn X2 hx hret hlk (hb hby d_jdk_42_method_54_code_10) (by decide) (by decide) e2 ⟨rfl, rfl, rfl⟩
theorem o_ef21 (m : MethodId) (a1 : Addr) : entryFrame m #[(.ref a1)] 1 = mkF m 0 #[.val (.ref a1)] [] := by first | (simp [entryFrame, mkF, argsToLocals, Value.category]; done) | rfl
set_option maxRecDepth 65536 in
set_option maxHeartbeats 40000000 in
theorem c_len1 (l : Launch) (Z : State) (a0 : Array Value) (hw : ∀ d ∈ tables_1, d.before a0 Z = true) (a1 : Addr) (b : Addr) (kb : ClassId) (vs : List Value) (cs : Int32) (h0 : Heap) (pE_a1 : Exa Z h0 a1 "java/lang/String") (pF_a1_coder : Fld Z h0 a1 "java/lang/String" "coder" "B" (.int (0 : Int32))) (pF_a1_value : Fld Z h0 a1 "java/lang/String" "value" "[B" (.ref b)) (pV_b : Arv Z h0 b kb .byte (1 : Int32) vs (.int (0 : Int32))) (pS_COMPACT_STRINGS : Sta Z h0 "java/lang/String" "COMPACT_STRINGS" "Z" (.int cs)) (hcs : ¬ cs = (0 : Int32)) :
    Does l Z (⟨"java/lang/String", "length", "()I"⟩ : MethodName) jdk_42_method_54_code 1 (some .int) [] ({ frames := 1, cells := 0, slots := 0, locals := 13 } : Room) #[(.ref a1)] h0 (Pur h0 (.int (1 : Int32))) := by
  refine Does.of (plainFor_of_name o_pn1) ?_
  intro p e s m below meth c T0 hx hby hml hown hnm hret hlk hZ X0 e0
  have hown : s.vm.findClass "java/lang/String" = some m.cls := hown
  have hml : c.maxLocals = 1 := hml
  have hret : meth.sig.returnType = some .int := hret
  refine o_entry (o_ef21 m a1) ?_
  refine o_aloadN X0 hx (hb hby d_jdk_42_method_54_code_0) (v := (.ref a1)) rfl rfl (n := 1) rfl ?_
  refine o_getfield X0 hx hZ hown (host := "") (Or.inl (hw _ (List.mem_of_getElem? (i := 28) rfl))) Via.refl e0 pF_a1_value (hb hby d_jdk_42_method_54_code_1) (n := 4) rfl ?_
  intro T1 X1 e1
  refine o_arraylength X1 hx hZ e1 pV_b (hb hby d_jdk_42_method_54_code_4) (n := 5) rfl ?_
  refine o_aloadN X1 hx (hb hby d_jdk_42_method_54_code_5) (v := (.ref a1)) rfl rfl (n := 6) rfl ?_
  refine o_callV X1 hx hZ hown (hw _ (List.mem_of_getElem? (i := 115) rfl)) (hw _ (List.mem_of_getElem? (i := 116) rfl)) (hw _ (List.mem_of_getElem? (i := 118) rfl)) (hw _ (List.mem_of_getElem? (i := 117) rfl)) (hw _ (List.mem_of_getElem? (i := 3) rfl)) (hw _ (List.mem_of_getElem? (i := 119) rfl)) (by decide) e1 pE_a1 (argsL := []) (rest := [(.int (1 : Int32))]) (c_cod l Z a0 hw a1 cs h0 pF_a1_coder pS_COMPACT_STRINGS hcs) 1 (by decide) (by decide) (by decide) (by decide) (by rw [hml]; rfl) (lenOf o_pd10 rfl) rfl (Nat.le_of_eq rfl) (hb hby d_jdk_42_method_54_code_6) (n := 9) rfl ?_
  intro v2 T2 L2 X2 q2
  obtain ⟨rfl, e2, rfl⟩ := q2
  show Goes _ _ p e below s _ _ _ (T2.setTop (mkF m 9 #[.val (.ref a1)] [(.int (0 : Int32)), (.int (1 : Int32))]))
  refine o_ishr X2 hx (hb hby d_jdk_42_method_54_code_9) (v := (1 : Int32)) (by decide) (n := 10) rfl ?_
  exact o_ireturn X2 hx hret hlk (hb hby d_jdk_42_method_54_code_10) (by decide) (by decide) e2 ⟨rfl, rfl, rfl⟩
theorem o_ef22 (m : MethodId) (a1 : Addr) : entryFrame m #[(.ref a1)] 1 = mkF m 0 #[.val (.ref a1)] [] := by first | (simp [entryFrame, mkF, argsToLocals, Value.category]; done) | rfl
set_option maxRecDepth 65536 in
set_option maxHeartbeats 40000000 in
theorem c_len2 (l : Launch) (Z : State) (a0 : Array Value) (hw : ∀ d ∈ tables_1, d.before a0 Z = true) (a1 : Addr) (b : Addr) (kb : ClassId) (vs : List Value) (cs : Int32) (h0 : Heap) (pE_a1 : Exa Z h0 a1 "java/lang/String") (pF_a1_coder : Fld Z h0 a1 "java/lang/String" "coder" "B" (.int (0 : Int32))) (pF_a1_value : Fld Z h0 a1 "java/lang/String" "value" "[B" (.ref b)) (pV_b : Arv Z h0 b kb .byte (2 : Int32) vs (.int (0 : Int32))) (pS_COMPACT_STRINGS : Sta Z h0 "java/lang/String" "COMPACT_STRINGS" "Z" (.int cs)) (hcs : ¬ cs = (0 : Int32)) :
    Does l Z (⟨"java/lang/String", "length", "()I"⟩ : MethodName) jdk_42_method_54_code 1 (some .int) [] ({ frames := 1, cells := 0, slots := 0, locals := 13 } : Room) #[(.ref a1)] h0 (Pur h0 (.int (2 : Int32))) := by
  refine Does.of (plainFor_of_name o_pn1) ?_
  intro p e s m below meth c T0 hx hby hml hown hnm hret hlk hZ X0 e0
  have hown : s.vm.findClass "java/lang/String" = some m.cls := hown
  have hml : c.maxLocals = 1 := hml
  have hret : meth.sig.returnType = some .int := hret
  refine o_entry (o_ef22 m a1) ?_
  refine o_aloadN X0 hx (hb hby d_jdk_42_method_54_code_0) (v := (.ref a1)) rfl rfl (n := 1) rfl ?_
  refine o_getfield X0 hx hZ hown (host := "") (Or.inl (hw _ (List.mem_of_getElem? (i := 28) rfl))) Via.refl e0 pF_a1_value (hb hby d_jdk_42_method_54_code_1) (n := 4) rfl ?_
  intro T1 X1 e1
  refine o_arraylength X1 hx hZ e1 pV_b (hb hby d_jdk_42_method_54_code_4) (n := 5) rfl ?_
  refine o_aloadN X1 hx (hb hby d_jdk_42_method_54_code_5) (v := (.ref a1)) rfl rfl (n := 6) rfl ?_
  refine o_callV X1 hx hZ hown (hw _ (List.mem_of_getElem? (i := 115) rfl)) (hw _ (List.mem_of_getElem? (i := 116) rfl)) (hw _ (List.mem_of_getElem? (i := 118) rfl)) (hw _ (List.mem_of_getElem? (i := 117) rfl)) (hw _ (List.mem_of_getElem? (i := 3) rfl)) (hw _ (List.mem_of_getElem? (i := 119) rfl)) (by decide) e1 pE_a1 (argsL := []) (rest := [(.int (2 : Int32))]) (c_cod l Z a0 hw a1 cs h0 pF_a1_coder pS_COMPACT_STRINGS hcs) 1 (by decide) (by decide) (by decide) (by decide) (by rw [hml]; rfl) (lenOf o_pd10 rfl) rfl (Nat.le_of_eq rfl) (hb hby d_jdk_42_method_54_code_6) (n := 9) rfl ?_
  intro v2 T2 L2 X2 q2
  obtain ⟨rfl, e2, rfl⟩ := q2
  show Goes _ _ p e below s _ _ _ (T2.setTop (mkF m 9 #[.val (.ref a1)] [(.int (0 : Int32)), (.int (2 : Int32))]))
  refine o_ishr X2 hx (hb hby d_jdk_42_method_54_code_9) (v := (2 : Int32)) (by decide) (n := 10) rfl ?_
  exact o_ireturn X2 hx hret hlk (hb hby d_jdk_42_method_54_code_10) (by decide) (by decide) e2 ⟨rfl, rfl, rfl⟩
theorem d_jdk_68_method_9_code_0 : decode jdk_68_method_9_code 0 = .ok (.aload_n 0, 1) := by decide +kernel
theorem d_jdk_68_method_9_code_1 : decode jdk_68_method_9_code 1 = .ok (.getfield 15, 3) := by decide +kernel
theorem d_jdk_68_method_9_code_4 : decode jdk_68_method_9_code 4 = .ok (.arraylength, 1) := by decide +kernel
theorem d_jdk_68_method_9_code_5 : decode jdk_68_method_9_code 5 = .ok (.aload_n 0, 1) := by decide +kernel
theorem d_jdk_68_method_9_code_6 : decode jdk_68_method_9_code 6 = .ok (.getfield 22, 3) := by decide +kernel
theorem d_jdk_68_method_9_code_9 : decode jdk_68_method_9_code 9 = .ok (.ishr, 1) := by decide +kernel
theorem d_jdk_68_method_9_code_10 : decode jdk_68_method_9_code 10 = .ok (.istore_n 2, 1) := by decide +kernel
theorem d_jdk_68_method_9_code_11 : decode jdk_68_method_9_code 11 = .ok (.iload_n 1, 1) := by decide +kernel
theorem d_jdk_68_method_9_code_12 : decode jdk_68_method_9_code 12 = .ok (.iload_n 2, 1) := by decide +kernel
theorem d_jdk_68_method_9_code_13 : decode jdk_68_method_9_code 13 = .ok (.isub, 1) := by decide +kernel
theorem d_jdk_68_method_9_code_14 : decode jdk_68_method_9_code 14 = .ok (.ifCond .le 24, 3) := by decide +kernel
theorem d_jdk_68_method_9_code_38 : decode jdk_68_method_9_code 38 = .ok (.return_, 1) := by decide +kernel
theorem o_ef23 (m : MethodId) (a1 : Addr) : entryFrame m #[(.ref a1), (.int (0 : Int32))] 3 = mkF m 0 #[.val (.ref a1), .val (.int (0 : Int32)), .unset] [] := by first | (simp [entryFrame, mkF, argsToLocals, Value.category]; done) | rfl
set_option maxRecDepth 65536 in
set_option maxHeartbeats 40000000 in
theorem c_ens0 (l : Launch) (Z : State) (a0 : Array Value) (hw : ∀ d ∈ tables_1, d.before a0 Z = true) (a1 : Addr) (b : Addr) (kb : ClassId) (vs : List Value) (h0 : Heap) (pE_a1 : Exa Z h0 a1 "java/lang/StringBuilder") (pF_a1_value : Fld Z h0 a1 "java/lang/AbstractStringBuilder" "value" "[B" (.ref b)) (pF_a1_coder : Fld Z h0 a1 "java/lang/AbstractStringBuilder" "coder" "B" (.int (0 : Int32))) (pV_b : Arv Z h0 b kb .byte (16 : Int32) vs (.int (0 : Int32))) :
    Does l Z (⟨"java/lang/AbstractStringBuilder", "ensureCapacityInternal", "(I)V"⟩ : MethodName) jdk_68_method_9_code 3 none [] ({ frames := 0, cells := 0, slots := 0, locals := 0 } : Room) #[(.ref a1), (.int (0 : Int32))] h0 (fun v h L => v = none ∧ h = h0 ∧ L = []) := by
  refine Does.of (plainFor_of_name o_pn6) ?_
  intro p e s m below meth c T0 hx hby hml hown hnm hret hlk hZ X0 e0
  have hown : s.vm.findClass "java/lang/AbstractStringBuilder" = some m.cls := hown
  have hml : c.maxLocals = 3 := hml
  have hret : meth.sig.returnType = none := hret
  refine o_entry (o_ef23 m a1) ?_
  refine o_aloadN X0 hx (hb hby d_jdk_68_method_9_code_0) (v := (.ref a1)) rfl rfl (n := 1) rfl ?_
  refine o_getfield X0 hx hZ hown (host := "") (Or.inl (hw _ (List.mem_of_getElem? (i := 96) rfl))) Via.refl e0 pF_a1_value (hb hby d_jdk_68_method_9_code_1) (n := 4) rfl ?_
  intro T1 X1 e1
  refine o_arraylength X1 hx hZ e1 pV_b (hb hby d_jdk_68_method_9_code_4) (n := 5) rfl ?_
  refine o_aloadN X1 hx (hb hby d_jdk_68_method_9_code_5) (v := (.ref a1)) rfl rfl (n := 6) rfl ?_
  refine o_getfield X1 hx hZ hown (host := "") (Or.inl (hw _ (List.mem_of_getElem? (i := 98) rfl))) Via.refl e1 pF_a1_coder (hb hby d_jdk_68_method_9_code_6) (n := 9) rfl ?_
  intro T2 X2 e2
  refine o_ishr X2 hx (hb hby d_jdk_68_method_9_code_9) (v := (16 : Int32)) (by decide) (n := 10) rfl ?_
  refine o_istoreN X2 hx (hb hby d_jdk_68_method_9_code_10) (Ls' := #[.val (.ref a1), .val (.int (0 : Int32)), .val (.int (16 : Int32))]) rfl (n := 11) rfl ?_
  refine o_iloadN X2 hx (hb hby d_jdk_68_method_9_code_11) (v := (0 : Int32)) rfl (n := 12) rfl ?_
  refine o_iloadN X2 hx (hb hby d_jdk_68_method_9_code_12) (v := (16 : Int32)) rfl (n := 13) rfl ?_
  refine o_isub X2 hx (hb hby d_jdk_68_method_9_code_13) (v := (-16 : Int32)) (by decide) (n := 14) rfl ?_
  refine o_ifY X2 hx (hb hby d_jdk_68_method_9_code_14) (XT.i0_le_t (by decide)) (by decide) (n := 38) (by decide) ?_
  exact o_return X2 hx hret hlk (hb hby d_jdk_68_method_9_code_38) (by decide) (by decide) e2 ⟨rfl, rfl, rfl⟩
theorem o_ef24 (m : MethodId) (a1 : Addr) : entryFrame m #[(.ref a1), (.int (1 : Int32))] 3 = mkF m 0 #[.val (.ref a1), .val (.int (1 : Int32)), .unset] [] := by first | (simp [entryFrame, mkF, argsToLocals, Value.category]; done) | rfl
set_option maxRecDepth 65536 in
set_option maxHeartbeats 40000000 in
theorem c_ens1 (l : Launch) (Z : State) (a0 : Array Value) (hw : ∀ d ∈ tables_1, d.before a0 Z = true) (a1 : Addr) (b : Addr) (kb : ClassId) (vs : List Value) (h0 : Heap) (pE_a1 : Exa Z h0 a1 "java/lang/StringBuilder") (pF_a1_value : Fld Z h0 a1 "java/lang/AbstractStringBuilder" "value" "[B" (.ref b)) (pF_a1_coder : Fld Z h0 a1 "java/lang/AbstractStringBuilder" "coder" "B" (.int (0 : Int32))) (pV_b : Arv Z h0 b kb .byte (16 : Int32) vs (.int (0 : Int32))) :
    Does l Z (⟨"java/lang/AbstractStringBuilder", "ensureCapacityInternal", "(I)V"⟩ : MethodName) jdk_68_method_9_code 3 none [] ({ frames := 0, cells := 0, slots := 0, locals := 0 } : Room) #[(.ref a1), (.int (1 : Int32))] h0 (fun v h L => v = none ∧ h = h0 ∧ L = []) := by
  refine Does.of (plainFor_of_name o_pn6) ?_
  intro p e s m below meth c T0 hx hby hml hown hnm hret hlk hZ X0 e0
  have hown : s.vm.findClass "java/lang/AbstractStringBuilder" = some m.cls := hown
  have hml : c.maxLocals = 3 := hml
  have hret : meth.sig.returnType = none := hret
  refine o_entry (o_ef24 m a1) ?_
  refine o_aloadN X0 hx (hb hby d_jdk_68_method_9_code_0) (v := (.ref a1)) rfl rfl (n := 1) rfl ?_
  refine o_getfield X0 hx hZ hown (host := "") (Or.inl (hw _ (List.mem_of_getElem? (i := 96) rfl))) Via.refl e0 pF_a1_value (hb hby d_jdk_68_method_9_code_1) (n := 4) rfl ?_
  intro T1 X1 e1
  refine o_arraylength X1 hx hZ e1 pV_b (hb hby d_jdk_68_method_9_code_4) (n := 5) rfl ?_
  refine o_aloadN X1 hx (hb hby d_jdk_68_method_9_code_5) (v := (.ref a1)) rfl rfl (n := 6) rfl ?_
  refine o_getfield X1 hx hZ hown (host := "") (Or.inl (hw _ (List.mem_of_getElem? (i := 98) rfl))) Via.refl e1 pF_a1_coder (hb hby d_jdk_68_method_9_code_6) (n := 9) rfl ?_
  intro T2 X2 e2
  refine o_ishr X2 hx (hb hby d_jdk_68_method_9_code_9) (v := (16 : Int32)) (by decide) (n := 10) rfl ?_
  refine o_istoreN X2 hx (hb hby d_jdk_68_method_9_code_10) (Ls' := #[.val (.ref a1), .val (.int (1 : Int32)), .val (.int (16 : Int32))]) rfl (n := 11) rfl ?_
  refine o_iloadN X2 hx (hb hby d_jdk_68_method_9_code_11) (v := (1 : Int32)) rfl (n := 12) rfl ?_
  refine o_iloadN X2 hx (hb hby d_jdk_68_method_9_code_12) (v := (16 : Int32)) rfl (n := 13) rfl ?_
  refine o_isub X2 hx (hb hby d_jdk_68_method_9_code_13) (v := (-15 : Int32)) (by decide) (n := 14) rfl ?_
  refine o_ifY X2 hx (hb hby d_jdk_68_method_9_code_14) (XT.i0_le_t (by decide)) (by decide) (n := 38) (by decide) ?_
  exact o_return X2 hx hret hlk (hb hby d_jdk_68_method_9_code_38) (by decide) (by decide) e2 ⟨rfl, rfl, rfl⟩
theorem o_ef25 (m : MethodId) (a1 : Addr) : entryFrame m #[(.ref a1), (.int (2 : Int32))] 3 = mkF m 0 #[.val (.ref a1), .val (.int (2 : Int32)), .unset] [] := by first | (simp [entryFrame, mkF, argsToLocals, Value.category]; done) | rfl
set_option maxRecDepth 65536 in
set_option maxHeartbeats 40000000 in
theorem c_ens2 (l : Launch) (Z : State) (a0 : Array Value) (hw : ∀ d ∈ tables_1, d.before a0 Z = true) (a1 : Addr) (b : Addr) (kb : ClassId) (vs : List Value) (h0 : Heap) (pE_a1 : Exa Z h0 a1 "java/lang/StringBuilder") (pF_a1_value : Fld Z h0 a1 "java/lang/AbstractStringBuilder" "value" "[B" (.ref b)) (pF_a1_coder : Fld Z h0 a1 "java/lang/AbstractStringBuilder" "coder" "B" (.int (0 : Int32))) (pV_b : Arv Z h0 b kb .byte (16 : Int32) vs (.int (0 : Int32))) :
    Does l Z (⟨"java/lang/AbstractStringBuilder", "ensureCapacityInternal", "(I)V"⟩ : MethodName) jdk_68_method_9_code 3 none [] ({ frames := 0, cells := 0, slots := 0, locals := 0 } : Room) #[(.ref a1), (.int (2 : Int32))] h0 (fun v h L => v = none ∧ h = h0 ∧ L = []) := by
  refine Does.of (plainFor_of_name o_pn6) ?_
  intro p e s m below meth c T0 hx hby hml hown hnm hret hlk hZ X0 e0
  have hown : s.vm.findClass "java/lang/AbstractStringBuilder" = some m.cls := hown
  have hml : c.maxLocals = 3 := hml
  have hret : meth.sig.returnType = none := hret
  refine o_entry (o_ef25 m a1) ?_
  refine o_aloadN X0 hx (hb hby d_jdk_68_method_9_code_0) (v := (.ref a1)) rfl rfl (n := 1) rfl ?_
  refine o_getfield X0 hx hZ hown (host := "") (Or.inl (hw _ (List.mem_of_getElem? (i := 96) rfl))) Via.refl e0 pF_a1_value (hb hby d_jdk_68_method_9_code_1) (n := 4) rfl ?_
  intro T1 X1 e1
  refine o_arraylength X1 hx hZ e1 pV_b (hb hby d_jdk_68_method_9_code_4) (n := 5) rfl ?_
  refine o_aloadN X1 hx (hb hby d_jdk_68_method_9_code_5) (v := (.ref a1)) rfl rfl (n := 6) rfl ?_
  refine o_getfield X1 hx hZ hown (host := "") (Or.inl (hw _ (List.mem_of_getElem? (i := 98) rfl))) Via.refl e1 pF_a1_coder (hb hby d_jdk_68_method_9_code_6) (n := 9) rfl ?_
  intro T2 X2 e2
  refine o_ishr X2 hx (hb hby d_jdk_68_method_9_code_9) (v := (16 : Int32)) (by decide) (n := 10) rfl ?_
  refine o_istoreN X2 hx (hb hby d_jdk_68_method_9_code_10) (Ls' := #[.val (.ref a1), .val (.int (2 : Int32)), .val (.int (16 : Int32))]) rfl (n := 11) rfl ?_
  refine o_iloadN X2 hx (hb hby d_jdk_68_method_9_code_11) (v := (2 : Int32)) rfl (n := 12) rfl ?_
  refine o_iloadN X2 hx (hb hby d_jdk_68_method_9_code_12) (v := (16 : Int32)) rfl (n := 13) rfl ?_
  refine o_isub X2 hx (hb hby d_jdk_68_method_9_code_13) (v := (-14 : Int32)) (by decide) (n := 14) rfl ?_
  refine o_ifY X2 hx (hb hby d_jdk_68_method_9_code_14) (XT.i0_le_t (by decide)) (by decide) (n := 38) (by decide) ?_
  exact o_return X2 hx hret hlk (hb hby d_jdk_68_method_9_code_38) (by decide) (by decide) e2 ⟨rfl, rfl, rfl⟩
theorem o_ef26 (m : MethodId) (a1 : Addr) : entryFrame m #[(.ref a1), (.int (3 : Int32))] 3 = mkF m 0 #[.val (.ref a1), .val (.int (3 : Int32)), .unset] [] := by first | (simp [entryFrame, mkF, argsToLocals, Value.category]; done) | rfl
set_option maxRecDepth 65536 in
set_option maxHeartbeats 40000000 in
theorem c_ens3 (l : Launch) (Z : State) (a0 : Array Value) (hw : ∀ d ∈ tables_1, d.before a0 Z = true) (a1 : Addr) (b : Addr) (kb : ClassId) (vs : List Value) (h0 : Heap) (pE_a1 : Exa Z h0 a1 "java/lang/StringBuilder") (pF_a1_value : Fld Z h0 a1 "java/lang/AbstractStringBuilder" "value" "[B" (.ref b)) (pF_a1_coder : Fld Z h0 a1 "java/lang/AbstractStringBuilder" "coder" "B" (.int (0 : Int32))) (pV_b : Arv Z h0 b kb .byte (16 : Int32) vs (.int (0 : Int32))) :
    Does l Z (⟨"java/lang/AbstractStringBuilder", "ensureCapacityInternal", "(I)V"⟩ : MethodName) jdk_68_method_9_code 3 none [] ({ frames := 0, cells := 0, slots := 0, locals := 0 } : Room) #[(.ref a1), (.int (3 : Int32))] h0 (fun v h L => v = none ∧ h = h0 ∧ L = []) := by
  refine Does.of (plainFor_of_name o_pn6) ?_
  intro p e s m below meth c T0 hx hby hml hown hnm hret hlk hZ X0 e0
  have hown : s.vm.findClass "java/lang/AbstractStringBuilder" = some m.cls := hown
  have hml : c.maxLocals = 3 := hml
  have hret : meth.sig.returnType = none := hret
  refine o_entry (o_ef26 m a1) ?_
  refine o_aloadN X0 hx (hb hby d_jdk_68_method_9_code_0) (v := (.ref a1)) rfl rfl (n := 1) rfl ?_
  refine o_getfield X0 hx hZ hown (host := "") (Or.inl (hw _ (List.mem_of_getElem? (i := 96) rfl))) Via.refl e0 pF_a1_value (hb hby d_jdk_68_method_9_code_1) (n := 4) rfl ?_
  intro T1 X1 e1
  refine o_arraylength X1 hx hZ e1 pV_b (hb hby d_jdk_68_method_9_code_4) (n := 5) rfl ?_
  refine o_aloadN X1 hx (hb hby d_jdk_68_method_9_code_5) (v := (.ref a1)) rfl rfl (n := 6) rfl ?_
  refine o_getfield X1 hx hZ hown (host := "") (Or.inl (hw _ (List.mem_of_getElem? (i := 98) rfl))) Via.refl e1 pF_a1_coder (hb hby d_jdk_68_method_9_code_6) (n := 9) rfl ?_
  intro T2 X2 e2
  refine o_ishr X2 hx (hb hby d_jdk_68_method_9_code_9) (v := (16 : Int32)) (by decide) (n := 10) rfl ?_
  refine o_istoreN X2 hx (hb hby d_jdk_68_method_9_code_10) (Ls' := #[.val (.ref a1), .val (.int (3 : Int32)), .val (.int (16 : Int32))]) rfl (n := 11) rfl ?_
  refine o_iloadN X2 hx (hb hby d_jdk_68_method_9_code_11) (v := (3 : Int32)) rfl (n := 12) rfl ?_
  refine o_iloadN X2 hx (hb hby d_jdk_68_method_9_code_12) (v := (16 : Int32)) rfl (n := 13) rfl ?_
  refine o_isub X2 hx (hb hby d_jdk_68_method_9_code_13) (v := (-13 : Int32)) (by decide) (n := 14) rfl ?_
  refine o_ifY X2 hx (hb hby d_jdk_68_method_9_code_14) (XT.i0_le_t (by decide)) (by decide) (n := 38) (by decide) ?_
  exact o_return X2 hx hret hlk (hb hby d_jdk_68_method_9_code_38) (by decide) (by decide) e2 ⟨rfl, rfl, rfl⟩
theorem o_ef27 (m : MethodId) (a1 : Addr) : entryFrame m #[(.ref a1), (.int (4 : Int32))] 3 = mkF m 0 #[.val (.ref a1), .val (.int (4 : Int32)), .unset] [] := by first | (simp [entryFrame, mkF, argsToLocals, Value.category]; done) | rfl
set_option maxRecDepth 65536 in
set_option maxHeartbeats 40000000 in
theorem c_ens4 (l : Launch) (Z : State) (a0 : Array Value) (hw : ∀ d ∈ tables_1, d.before a0 Z = true) (a1 : Addr) (b : Addr) (kb : ClassId) (vs : List Value) (h0 : Heap) (pE_a1 : Exa Z h0 a1 "java/lang/StringBuilder") (pF_a1_value : Fld Z h0 a1 "java/lang/AbstractStringBuilder" "value" "[B" (.ref b)) (pF_a1_coder : Fld Z h0 a1 "java/lang/AbstractStringBuilder" "coder" "B" (.int (0 : Int32))) (pV_b : Arv Z h0 b kb .byte (16 : Int32) vs (.int (0 : Int32))) :
    Does l Z (⟨"java/lang/AbstractStringBuilder", "ensureCapacityInternal", "(I)V"⟩ : MethodName) jdk_68_method_9_code 3 none [] ({ frames := 0, cells := 0, slots := 0, locals := 0 } : Room) #[(.ref a1), (.int (4 : Int32))] h0 (fun v h L => v = none ∧ h = h0 ∧ L = []) := by
  refine Does.of (plainFor_of_name o_pn6) ?_
  intro p e s m below meth c T0 hx hby hml hown hnm hret hlk hZ X0 e0
  have hown : s.vm.findClass "java/lang/AbstractStringBuilder" = some m.cls := hown
  have hml : c.maxLocals = 3 := hml
  have hret : meth.sig.returnType = none := hret
  refine o_entry (o_ef27 m a1) ?_
  refine o_aloadN X0 hx (hb hby d_jdk_68_method_9_code_0) (v := (.ref a1)) rfl rfl (n := 1) rfl ?_
  refine o_getfield X0 hx hZ hown (host := "") (Or.inl (hw _ (List.mem_of_getElem? (i := 96) rfl))) Via.refl e0 pF_a1_value (hb hby d_jdk_68_method_9_code_1) (n := 4) rfl ?_
  intro T1 X1 e1
  refine o_arraylength X1 hx hZ e1 pV_b (hb hby d_jdk_68_method_9_code_4) (n := 5) rfl ?_
  refine o_aloadN X1 hx (hb hby d_jdk_68_method_9_code_5) (v := (.ref a1)) rfl rfl (n := 6) rfl ?_
  refine o_getfield X1 hx hZ hown (host := "") (Or.inl (hw _ (List.mem_of_getElem? (i := 98) rfl))) Via.refl e1 pF_a1_coder (hb hby d_jdk_68_method_9_code_6) (n := 9) rfl ?_
  intro T2 X2 e2
  refine o_ishr X2 hx (hb hby d_jdk_68_method_9_code_9) (v := (16 : Int32)) (by decide) (n := 10) rfl ?_
  refine o_istoreN X2 hx (hb hby d_jdk_68_method_9_code_10) (Ls' := #[.val (.ref a1), .val (.int (4 : Int32)), .val (.int (16 : Int32))]) rfl (n := 11) rfl ?_
  refine o_iloadN X2 hx (hb hby d_jdk_68_method_9_code_11) (v := (4 : Int32)) rfl (n := 12) rfl ?_
  refine o_iloadN X2 hx (hb hby d_jdk_68_method_9_code_12) (v := (16 : Int32)) rfl (n := 13) rfl ?_
  refine o_isub X2 hx (hb hby d_jdk_68_method_9_code_13) (v := (-12 : Int32)) (by decide) (n := 14) rfl ?_
  refine o_ifY X2 hx (hb hby d_jdk_68_method_9_code_14) (XT.i0_le_t (by decide)) (by decide) (n := 38) (by decide) ?_
  exact o_return X2 hx hret hlk (hb hby d_jdk_68_method_9_code_38) (by decide) (by decide) e2 ⟨rfl, rfl, rfl⟩
theorem o_ef28 (m : MethodId) (a1 : Addr) : entryFrame m #[(.ref a1), (.int (5 : Int32))] 3 = mkF m 0 #[.val (.ref a1), .val (.int (5 : Int32)), .unset] [] := by first | (simp [entryFrame, mkF, argsToLocals, Value.category]; done) | rfl
set_option maxRecDepth 65536 in
set_option maxHeartbeats 40000000 in
theorem c_ens5 (l : Launch) (Z : State) (a0 : Array Value) (hw : ∀ d ∈ tables_1, d.before a0 Z = true) (a1 : Addr) (b : Addr) (kb : ClassId) (vs : List Value) (h0 : Heap) (pE_a1 : Exa Z h0 a1 "java/lang/StringBuilder") (pF_a1_value : Fld Z h0 a1 "java/lang/AbstractStringBuilder" "value" "[B" (.ref b)) (pF_a1_coder : Fld Z h0 a1 "java/lang/AbstractStringBuilder" "coder" "B" (.int (0 : Int32))) (pV_b : Arv Z h0 b kb .byte (16 : Int32) vs (.int (0 : Int32))) :
    Does l Z (⟨"java/lang/AbstractStringBuilder", "ensureCapacityInternal", "(I)V"⟩ : MethodName) jdk_68_method_9_code 3 none [] ({ frames := 0, cells := 0, slots := 0, locals := 0 } : Room) #[(.ref a1), (.int (5 : Int32))] h0 (fun v h L => v = none ∧ h = h0 ∧ L = []) := by
  refine Does.of (plainFor_of_name o_pn6) ?_
  intro p e s m below meth c T0 hx hby hml hown hnm hret hlk hZ X0 e0
  have hown : s.vm.findClass "java/lang/AbstractStringBuilder" = some m.cls := hown
  have hml : c.maxLocals = 3 := hml
  have hret : meth.sig.returnType = none := hret
  refine o_entry (o_ef28 m a1) ?_
  refine o_aloadN X0 hx (hb hby d_jdk_68_method_9_code_0) (v := (.ref a1)) rfl rfl (n := 1) rfl ?_
  refine o_getfield X0 hx hZ hown (host := "") (Or.inl (hw _ (List.mem_of_getElem? (i := 96) rfl))) Via.refl e0 pF_a1_value (hb hby d_jdk_68_method_9_code_1) (n := 4) rfl ?_
  intro T1 X1 e1
  refine o_arraylength X1 hx hZ e1 pV_b (hb hby d_jdk_68_method_9_code_4) (n := 5) rfl ?_
  refine o_aloadN X1 hx (hb hby d_jdk_68_method_9_code_5) (v := (.ref a1)) rfl rfl (n := 6) rfl ?_
  refine o_getfield X1 hx hZ hown (host := "") (Or.inl (hw _ (List.mem_of_getElem? (i := 98) rfl))) Via.refl e1 pF_a1_coder (hb hby d_jdk_68_method_9_code_6) (n := 9) rfl ?_
  intro T2 X2 e2
  refine o_ishr X2 hx (hb hby d_jdk_68_method_9_code_9) (v := (16 : Int32)) (by decide) (n := 10) rfl ?_
  refine o_istoreN X2 hx (hb hby d_jdk_68_method_9_code_10) (Ls' := #[.val (.ref a1), .val (.int (5 : Int32)), .val (.int (16 : Int32))]) rfl (n := 11) rfl ?_
  refine o_iloadN X2 hx (hb hby d_jdk_68_method_9_code_11) (v := (5 : Int32)) rfl (n := 12) rfl ?_
  refine o_iloadN X2 hx (hb hby d_jdk_68_method_9_code_12) (v := (16 : Int32)) rfl (n := 13) rfl ?_
  refine o_isub X2 hx (hb hby d_jdk_68_method_9_code_13) (v := (-11 : Int32)) (by decide) (n := 14) rfl ?_
  refine o_ifY X2 hx (hb hby d_jdk_68_method_9_code_14) (XT.i0_le_t (by decide)) (by decide) (n := 38) (by decide) ?_
  exact o_return X2 hx hret hlk (hb hby d_jdk_68_method_9_code_38) (by decide) (by decide) e2 ⟨rfl, rfl, rfl⟩
theorem d_jdk_68_method_71_code_0 : decode jdk_68_method_71_code 0 = .ok (.getstatic 18, 3) := by decide +kernel
theorem d_jdk_68_method_71_code_3 : decode jdk_68_method_71_code 3 = .ok (.ifCond .eq 18, 3) := by decide +kernel
theorem d_jdk_68_method_71_code_6 : decode jdk_68_method_71_code 6 = .ok (.aload_n 0, 1) := by decide +kernel
theorem d_jdk_68_method_71_code_7 : decode jdk_68_method_71_code 7 = .ok (.getfield 22, 3) := by decide +kernel
theorem d_jdk_68_method_71_code_10 : decode jdk_68_method_71_code 10 = .ok (.aload_n 1, 1) := by decide +kernel
theorem d_jdk_68_method_71_code_11 : decode jdk_68_method_71_code 11 = .ok (.invokevirtual 40, 3) := by decide +kernel
theorem d_jdk_68_method_71_code_14 : decode jdk_68_method_71_code 14 = .ok (.if_icmp .eq 7, 3) := by decide +kernel
theorem d_jdk_68_method_71_code_21 : decode jdk_68_method_71_code 21 = .ok (.return_, 1) := by decide +kernel
theorem o_ef29 (m : MethodId) (a1 : Addr) (s1 : Addr) : entryFrame m #[(.ref a1), (.ref s1)] 2 = mkF m 0 #[.val (.ref a1), .val (.ref s1)] [] := by first | (simp [entryFrame, mkF, argsToLocals, Value.category]; done) | rfl
set_option maxRecDepth 65536 in
set_option maxHeartbeats 40000000 in
theorem c_inf (l : Launch) (Z : State) (a0 : Array Value) (hw : ∀ d ∈ tables_1, d.before a0 Z = true) (a1 : Addr) (s1 : Addr) (cs : Int32) (h0 : Heap) (pE_a1 : Exa Z h0 a1 "java/lang/StringBuilder") (pF_a1_coder : Fld Z h0 a1 "java/lang/AbstractStringBuilder" "coder" "B" (.int (0 : Int32))) (pE_s1 : Exa Z h0 s1 "java/lang/String") (pF_s1_coder : Fld Z h0 s1 "java/lang/String" "coder" "B" (.int (0 : Int32))) (pS_COMPACT_STRINGS : Sta Z h0 "java/lang/String" "COMPACT_STRINGS" "Z" (.int cs)) (hcs : ¬ cs = (0 : Int32)) :
    Does l Z (⟨"java/lang/AbstractStringBuilder", "inflateIfNeededFor", "(Ljava/lang/String;)V"⟩ : MethodName) jdk_68_method_71_code 2 none [] ({ frames := 1, cells := 0, slots := 0, locals := 13 } : Room) #[(.ref a1), (.ref s1)] h0 (fun v h L => v = none ∧ h = h0 ∧ L = []) := by
  refine Does.of (plainFor_of_name o_pn6) ?_
  intro p e s m below meth c T0 hx hby hml hown hnm hret hlk hZ X0 e0
  have hown : s.vm.findClass "java/lang/AbstractStringBuilder" = some m.cls := hown
  have hml : c.maxLocals = 2 := hml
  have hret : meth.sig.returnType = none := hret
  refine o_entry (o_ef29 m a1 s1) ?_
  refine o_getstatic X0 hx hZ hown (host := "") (Or.inl (hw _ (List.mem_of_getElem? (i := 95) rfl))) Via.refl e0 pS_COMPACT_STRINGS (hb hby d_jdk_68_method_71_code_0) (n := 3) rfl ?_
  intro T1 X1 e1
  refine o_ifN X1 hx (hb hby d_jdk_68_method_71_code_3) (XT.i0_eq_f hcs) (n := 6) rfl ?_
  refine o_aloadN X1 hx (hb hby d_jdk_68_method_71_code_6) (v := (.ref a1)) rfl rfl (n := 7) rfl ?_
  refine o_getfield X1 hx hZ hown (host := "") (Or.inl (hw _ (List.mem_of_getElem? (i := 98) rfl))) Via.refl e1 pF_a1_coder (hb hby d_jdk_68_method_71_code_7) (n := 10) rfl ?_
  intro T2 X2 e2
  refine o_aloadN X2 hx (hb hby d_jdk_68_method_71_code_10) (v := (.ref s1)) rfl rfl (n := 11) rfl ?_
  refine o_callV X2 hx hZ hown (hw _ (List.mem_of_getElem? (i := 137) rfl)) (hw _ (List.mem_of_getElem? (i := 116) rfl)) (hw _ (List.mem_of_getElem? (i := 118) rfl)) (hw _ (List.mem_of_getElem? (i := 117) rfl)) (hw _ (List.mem_of_getElem? (i := 3) rfl)) (hw _ (List.mem_of_getElem? (i := 119) rfl)) (by decide) e2 pE_s1 (argsL := []) (rest := [(.int (0 : Int32))]) (c_cod l Z a0 hw s1 cs h0 pF_s1_coder pS_COMPACT_STRINGS hcs) 1 (by decide) (by decide) (by decide) (by decide) (by rw [hml]; rfl) (lenOf o_pd10 rfl) rfl (Nat.le_of_eq rfl) (hb hby d_jdk_68_method_71_code_11) (n := 14) rfl ?_
  intro v3 T3 L3 X3 q3
  obtain ⟨rfl, e3, rfl⟩ := q3
  show Goes _ _ p e below s _ _ _ (T3.setTop (mkF m 14 #[.val (.ref a1), .val (.ref s1)] [(.int (0 : Int32)), (.int (0 : Int32))]))
  refine o_icmpY X3 hx (hb hby d_jdk_68_method_71_code_14) (XT.ii_eq_t (by decide)) (by decide) (n := 21) (by decide) ?_
  exact o_return X3 hx hret hlk (hb hby d_jdk_68_method_71_code_21) (by decide) (by decide) e3 ⟨rfl, rfl, rfl⟩
theorem d_jdk_42_method_147_code_0 : decode jdk_42_method_147_code 0 = .ok (.aload_n 0, 1) := by decide +kernel
theorem d_jdk_42_method_147_code_1 : decode jdk_42_method_147_code 1 = .ok (.invokevirtual 335, 3) := by decide +kernel
theorem d_jdk_42_method_147_code_4 : decode jdk_42_method_147_code 4 = .ok (.iload_n 3, 1) := by decide +kernel
theorem d_jdk_42_method_147_code_5 : decode jdk_42_method_147_code 5 = .ok (.if_icmp .ne 23, 3) := by decide +kernel
theorem d_jdk_42_method_147_code_8 : decode jdk_42_method_147_code 8 = .ok (.aload_n 0, 1) := by decide +kernel
theorem d_jdk_42_method_147_code_9 : decode jdk_42_method_147_code 9 = .ok (.getfield 9, 3) := by decide +kernel
theorem d_jdk_42_method_147_code_12 : decode jdk_42_method_147_code 12 = .ok (.iconst 0, 1) := by decide +kernel
theorem d_jdk_42_method_147_code_13 : decode jdk_42_method_147_code 13 = .ok (.aload_n 1, 1) := by decide +kernel
theorem d_jdk_42_method_147_code_14 : decode jdk_42_method_147_code 14 = .ok (.iload_n 2, 1) := by decide +kernel
theorem d_jdk_42_method_147_code_15 : decode jdk_42_method_147_code 15 = .ok (.iload_n 3, 1) := by decide +kernel
theorem d_jdk_42_method_147_code_16 : decode jdk_42_method_147_code 16 = .ok (.ishl, 1) := by decide +kernel
theorem d_jdk_42_method_147_code_17 : decode jdk_42_method_147_code 17 = .ok (.aload_n 0, 1) := by decide +kernel
theorem d_jdk_42_method_147_code_18 : decode jdk_42_method_147_code 18 = .ok (.getfield 9, 3) := by decide +kernel
theorem d_jdk_42_method_147_code_21 : decode jdk_42_method_147_code 21 = .ok (.arraylength, 1) := by decide +kernel
theorem d_jdk_42_method_147_code_22 : decode jdk_42_method_147_code 22 = .ok (.invokestatic 212, 3) := by decide +kernel
theorem d_jdk_42_method_147_code_25 : decode jdk_42_method_147_code 25 = .ok (.goto 18, 3) := by decide +kernel
theorem d_jdk_42_method_147_code_43 : decode jdk_42_method_147_code 43 = .ok (.return_, 1) := by decide +kernel
theorem o_ef30 (m : MethodId) (s1 : Addr) (r : Addr) : entryFrame m #[(.ref s1), (.ref r), (.int (0 : Int32)), (.int (0 : Int32))] 4 = mkF m 0 #[.val (.ref s1), .val (.ref r), .val (.int (0 : Int32)), .val (.int (0 : Int32))] [] := by first | (simp [entryFrame, mkF, argsToLocals, Value.category]; done) | rfl
set_option maxRecDepth 65536 in
set_option maxHeartbeats 40000000 in
theorem c_gb20 (l : Launch) (Z : State) (a0 : Array Value) (hw : ∀ d ∈ tables_1, d.before a0 Z = true) (s1 : Addr) (u : Addr) (ku : ClassId) (r : Addr) (kr : ClassId) (cs : Int32) (b0 : Int32) (b1 : Int32) (h0 : Heap) (n0 : Nat) (Z0 : n0 ≤ h0.size) (pg_r : n0 ≤ r) (pE_s1 : Exa Z h0 s1 "java/lang/String") (pF_s1_coder : Fld Z h0 s1 "java/lang/String" "coder" "B" (.int (0 : Int32))) (pF_s1_value : Fld Z h0 s1 "java/lang/String" "value" "[B" (.ref u)) (pV_u : Arv Z h0 u ku .byte (2 : Int32) [(.int b0), (.int b1)] (.int (0 : Int32))) (pV_r : Arv Z h0 r kr .byte (16 : Int32) [(.int (0 : Int32)), (.int (0 : Int32)), (.int (0 : Int32)), (.int (0 : Int32)), (.int (0 : Int32)), (.int (0 : Int32)), (.int (0 : Int32)), (.int (0 : Int32)), (.int (0 : Int32)), (.int (0 : Int32)), (.int (0 : Int32)), (.int (0 : Int32)), (.int (0 : Int32)), (.int (0 : Int32)), (.int (0 : Int32)), (.int (0 : Int32))] (.int (0 : Int32))) (pne_u_r : u ≠ r) (pne_s1_r : s1 ≠ r) (pS_COMPACT_STRINGS : Sta Z h0 "java/lang/String" "COMPACT_STRINGS" "Z" (.int cs)) (hcs : ¬ cs = (0 : Int32)) :
    Does l Z (⟨"java/lang/String", "getBytes", "([BIB)V"⟩ : MethodName) jdk_42_method_147_code 4 none [] ({ frames := 1, cells := 0, slots := 0, locals := 18 } : Room) #[(.ref s1), (.ref r), (.int (0 : Int32)), (.int (0 : Int32))] h0 (fun v h L => v = none ∧ Fr n0 L ∧ Keep h0 h [r] ∧ Arv Z h r kr .byte (16 : Int32) [(.int b0), (.int b1), (.int (0 : Int32)), (.int (0 : Int32)), (.int (0 : Int32)), (.int (0 : Int32)), (.int (0 : Int32)), (.int (0 : Int32)), (.int (0 : Int32)), (.int (0 : Int32)), (.int (0 : Int32)), (.int (0 : Int32)), (.int (0 : Int32)), (.int (0 : Int32)), (.int (0 : Int32)), (.int (0 : Int32))] (.int (0 : Int32))) := by
  refine Does.of (plainFor_of_name o_pn1) ?_
  intro p e s m below meth c T0 hx hby hml hown hnm hret hlk hZ X0 e0
  have hown : s.vm.findClass "java/lang/String" = some m.cls := hown
  have hml : c.maxLocals = 4 := hml
  have hret : meth.sig.returnType = none := hret
  refine o_entry (o_ef30 m s1 r) ?_
  have N0 := Fr.nil n0
  refine o_aloadN X0 hx (hb hby d_jdk_42_method_147_code_0) (v := (.ref s1)) rfl rfl (n := 1) rfl ?_
  refine o_callV X0 hx hZ hown (hw _ (List.mem_of_getElem? (i := 115) rfl)) (hw _ (List.mem_of_getElem? (i := 116) rfl)) (hw _ (List.mem_of_getElem? (i := 118) rfl)) (hw _ (List.mem_of_getElem? (i := 117) rfl)) (hw _ (List.mem_of_getElem? (i := 3) rfl)) (hw _ (List.mem_of_getElem? (i := 119) rfl)) (by decide) e0 pE_s1 (argsL := []) (rest := []) (c_cod l Z a0 hw s1 cs h0 pF_s1_coder pS_COMPACT_STRINGS hcs) 0 (by decide) (by decide) (by decide) (by decide) (by rw [hml]; rfl) (lenOf o_pd10 rfl) rfl (Nat.le_of_eq rfl) (hb hby d_jdk_42_method_147_code_1) (n := 4) rfl ?_
  intro v1 T1 L1 X1 q1
  obtain ⟨rfl, e1, rfl⟩ := q1
  have N2 := Fr.app N0 (Fr.nil n0)
  show Goes _ _ p e below s _ _ _ (T1.setTop (mkF m 4 #[.val (.ref s1), .val (.ref r), .val (.int (0 : Int32)), .val (.int (0 : Int32))] [(.int (0 : Int32))]))
  refine o_iloadN X1 hx (hb hby d_jdk_42_method_147_code_4) (v := (0 : Int32)) rfl (n := 5) rfl ?_
  refine o_icmpN X1 hx (hb hby d_jdk_42_method_147_code_5) (XT.ii_ne_f (by decide)) (n := 8) rfl ?_
  refine o_aloadN X1 hx (hb hby d_jdk_42_method_147_code_8) (v := (.ref s1)) rfl rfl (n := 9) rfl ?_
  refine o_getfield X1 hx hZ hown (host := "") (Or.inl (hw _ (List.mem_of_getElem? (i := 28) rfl))) Via.refl e1 pF_s1_value (hb hby d_jdk_42_method_147_code_9) (n := 12) rfl ?_
  intro T3 X3 e3
  refine o_iconst X3 hx (hb hby d_jdk_42_method_147_code_12) (v := (0 : Int32)) rfl (n := 13) rfl ?_
  refine o_aloadN X3 hx (hb hby d_jdk_42_method_147_code_13) (v := (.ref r)) rfl rfl (n := 14) rfl ?_
  refine o_iloadN X3 hx (hb hby d_jdk_42_method_147_code_14) (v := (0 : Int32)) rfl (n := 15) rfl ?_
  refine o_iloadN X3 hx (hb hby d_jdk_42_method_147_code_15) (v := (0 : Int32)) rfl (n := 16) rfl ?_
  refine o_ishl X3 hx (hb hby d_jdk_42_method_147_code_16) (v := (0 : Int32)) (by decide) (n := 17) rfl ?_
  refine o_aloadN X3 hx (hb hby d_jdk_42_method_147_code_17) (v := (.ref s1)) rfl rfl (n := 18) rfl ?_
  refine o_getfield X3 hx hZ hown (host := "") (Or.inl (hw _ (List.mem_of_getElem? (i := 28) rfl))) Via.refl e3 pF_s1_value (hb hby d_jdk_42_method_147_code_18) (n := 21) rfl ?_
  intro T4 X4 e4
  refine o_arraylength X4 hx hZ e4 pV_u (hb hby d_jdk_42_method_147_code_21) (n := 22) rfl ?_
  refine o_acopy X4 hx hZ hown (hw _ (List.mem_of_getElem? (i := 143) rfl)) (hw _ (List.mem_of_getElem? (i := 146) rfl)) (hw _ (List.mem_of_getElem? (i := 144) rfl)) (hw _ (List.mem_of_getElem? (i := 145) rfl)) e4 pV_u pV_r (Or.inl ⟨rfl, rfl⟩) ⟨by decide, by decide, by decide, by decide, by decide, rfl, (show (0 : Int32).toNatClampNeg + (2 : Int32).toNatClampNeg ≤ 16 by decide)⟩ N2 pg_r (by rw [hml]; rfl) (hb hby d_jdk_42_method_147_code_22) (by decide) 0 (Nat.le_of_eq rfl) (by decide) (n := 25) rfl ?_
  intro T5 h5 L5 X5 e5 N5 K5 V5
  have f6 := pE_s1.keep K5
  have f7 := pF_s1_coder.keep K5 (ninS pne_s1_r nin0)
  have f8 := pF_s1_value.keep K5 (ninS pne_s1_r nin0)
  have f9 := pV_u.keep K5 (ninS pne_u_r nin0)
  have f10 := o_sta_keep pS_COMPACT_STRINGS K5 (allS (P := fun a => ∀ cl : Cell, h0[a]? = some cl → cl.vm.isStatics = false) (o_arv_ns pV_r) all0)
  have f11 : Arv Z h5 r kr .byte (16 : Int32) [(.int b0), (.int b1), (.int (0 : Int32)), (.int (0 : Int32)), (.int (0 : Int32)), (.int (0 : Int32)), (.int (0 : Int32)), (.int (0 : Int32)), (.int (0 : Int32)), (.int (0 : Int32)), (.int (0 : Int32)), (.int (0 : Int32)), (.int (0 : Int32)), (.int (0 : Int32)), (.int (0 : Int32)), (.int (0 : Int32))] (.int (0 : Int32)) := V5.pad (fun i => rfl)
  have zz5 : n0 ≤ h5.size := Nat.le_trans Z0 K5.1
  have K12 : Keep h0 h5 [r] := (Keep.refl h0 [r]).trans K5 (allS (P := fun x => x ∈ [r] ∨ h0.size ≤ x) (Or.inl (List.mem_of_getElem? (i := 0) rfl)) all0)
  show Goes _ _ p e below s _ _ _ (T5.setTop (mkF m 25 #[.val (.ref s1), .val (.ref r), .val (.int (0 : Int32)), .val (.int (0 : Int32))] []))
  refine o_goto X5 hx (hb hby d_jdk_42_method_147_code_25) (by decide) (n := 43) (by decide) ?_
  exact o_return X5 hx hret hlk (hb hby d_jdk_42_method_147_code_43) (by decide) (by decide) e5 ⟨rfl, N5, K12, f11⟩
theorem d_jdk_68_method_73_code_0 : decode jdk_68_method_73_code 0 = .ok (.aload_n 0, 1) := by decide +kernel
theorem d_jdk_68_method_73_code_1 : decode jdk_68_method_73_code 1 = .ok (.aload_n 2, 1) := by decide +kernel
theorem d_jdk_68_method_73_code_2 : decode jdk_68_method_73_code 2 = .ok (.invokevirtual 397, 3) := by decide +kernel
theorem o_pd11 : parseMethodDescriptor "(Ljava/lang/String;)V" = some ⟨[(.object "java/lang/String")], none⟩ := by decide +kernel
theorem d_jdk_68_method_73_code_5 : decode jdk_68_method_73_code 5 = .ok (.aload_n 2, 1) := by decide +kernel
theorem d_jdk_68_method_73_code_6 : decode jdk_68_method_73_code 6 = .ok (.aload_n 0, 1) := by decide +kernel
theorem d_jdk_68_method_73_code_7 : decode jdk_68_method_73_code 7 = .ok (.getfield 15, 3) := by decide +kernel
theorem d_jdk_68_method_73_code_10 : decode jdk_68_method_73_code 10 = .ok (.iload_n 1, 1) := by decide +kernel
theorem d_jdk_68_method_73_code_11 : decode jdk_68_method_73_code 11 = .ok (.aload_n 0, 1) := by decide +kernel
theorem d_jdk_68_method_73_code_12 : decode jdk_68_method_73_code 12 = .ok (.getfield 22, 3) := by decide +kernel
theorem d_jdk_68_method_73_code_15 : decode jdk_68_method_73_code 15 = .ok (.invokevirtual 399, 3) := by decide +kernel
theorem o_pd12 : parseMethodDescriptor "([BIB)V" = some ⟨[(.array .byte), .int, .byte], none⟩ := by decide +kernel
theorem d_jdk_68_method_73_code_18 : decode jdk_68_method_73_code 18 = .ok (.return_, 1) := by decide +kernel
theorem o_ef31 (m : MethodId) (a1 : Addr) (s1 : Addr) : entryFrame m #[(.ref a1), (.int (0 : Int32)), (.ref s1)] 3 = mkF m 0 #[.val (.ref a1), .val (.int (0 : Int32)), .val (.ref s1)] [] := by first | (simp [entryFrame, mkF, argsToLocals, Value.category]; done) | rfl
set_option maxRecDepth 65536 in
set_option maxHeartbeats 40000000 in
theorem c_pu20 (l : Launch) (Z : State) (a0 : Array Value) (hw : ∀ d ∈ tables_1, d.before a0 Z = true) (a1 : Addr) (s1 : Addr) (u : Addr) (ku : ClassId) (r : Addr) (kr : ClassId) (cs : Int32) (b0 : Int32) (b1 : Int32) (h0 : Heap) (n0 : Nat) (Z0 : n0 ≤ h0.size) (pg_r : n0 ≤ r) (pE_a1 : Exa Z h0 a1 "java/lang/StringBuilder") (pF_a1_value : Fld Z h0 a1 "java/lang/AbstractStringBuilder" "value" "[B" (.ref r)) (pF_a1_coder : Fld Z h0 a1 "java/lang/AbstractStringBuilder" "coder" "B" (.int (0 : Int32))) (pE_s1 : Exa Z h0 s1 "java/lang/String") (pF_s1_coder : Fld Z h0 s1 "java/lang/String" "coder" "B" (.int (0 : Int32))) (pF_s1_value : Fld Z h0 s1 "java/lang/String" "value" "[B" (.ref u)) (pV_u : Arv Z h0 u ku .byte (2 : Int32) [(.int b0), (.int b1)] (.int (0 : Int32))) (pV_r : Arv Z h0 r kr .byte (16 : Int32) [(.int (0 : Int32)), (.int (0 : Int32)), (.int (0 : Int32)), (.int (0 : Int32)), (.int (0 : Int32)), (.int (0 : Int32)), (.int (0 : Int32)), (.int (0 : Int32)), (.int (0 : Int32)), (.int (0 : Int32)), (.int (0 : Int32)), (.int (0 : Int32)), (.int (0 : Int32)), (.int (0 : Int32)), (.int (0 : Int32)), (.int (0 : Int32))] (.int (0 : Int32))) (pne_u_r : u ≠ r) (pne_s1_r : s1 ≠ r) (pne_a1_r : a1 ≠ r) (pne_a1_s1 : a1 ≠ s1) (pne_a1_u : a1 ≠ u) (pS_COMPACT_STRINGS : Sta Z h0 "java/lang/String" "COMPACT_STRINGS" "Z" (.int cs)) (hcs : ¬ cs = (0 : Int32)) :
    Does l Z (⟨"java/lang/AbstractStringBuilder", "putStringAt", "(ILjava/lang/String;)V"⟩ : MethodName) jdk_68_method_73_code 3 none [] ({ frames := 2, cells := 0, slots := 0, locals := 33 } : Room) #[(.ref a1), (.int (0 : Int32)), (.ref s1)] h0 (fun v h L => v = none ∧ Fr n0 L ∧ Keep h0 h [r] ∧ Arv Z h r kr .byte (16 : Int32) [(.int b0), (.int b1), (.int (0 : Int32)), (.int (0 : Int32)), (.int (0 : Int32)), (.int (0 : Int32)), (.int (0 : Int32)), (.int (0 : Int32)), (.int (0 : Int32)), (.int (0 : Int32)), (.int (0 : Int32)), (.int (0 : Int32)), (.int (0 : Int32)), (.int (0 : Int32)), (.int (0 : Int32)), (.int (0 : Int32))] (.int (0 : Int32))) := by
  refine Does.of (plainFor_of_name o_pn6) ?_
  intro p e s m below meth c T0 hx hby hml hown hnm hret hlk hZ X0 e0
  have hown : s.vm.findClass "java/lang/AbstractStringBuilder" = some m.cls := hown
  have hml : c.maxLocals = 3 := hml
  have hret : meth.sig.returnType = none := hret
  refine o_entry (o_ef31 m a1 s1) ?_
  have N0 := Fr.nil n0
  refine o_aloadN X0 hx (hb hby d_jdk_68_method_73_code_0) (v := (.ref a1)) rfl rfl (n := 1) rfl ?_
  refine o_aloadN X0 hx (hb hby d_jdk_68_method_73_code_1) (v := (.ref s1)) rfl rfl (n := 2) rfl ?_
  refine o_callP2 X0 hx hZ hown (hw _ (List.mem_of_getElem? (i := 132) rfl)) (hw _ (List.mem_of_getElem? (i := 133) rfl)) (hw _ (List.mem_of_getElem? (i := 134) rfl)) (hw _ (List.mem_of_getElem? (i := 135) rfl)) (hw _ (List.mem_of_getElem? (i := 92) rfl)) (hw _ (List.mem_of_getElem? (i := 136) rfl)) (by decide) e0 pE_a1 (argsL := [(.ref s1)]) (rest := []) (c_inf l Z a0 hw a1 s1 cs h0 pE_a1 pF_a1_coder pE_s1 pF_s1_coder pS_COMPACT_STRINGS hcs) 0 (by decide) (by decide) (by decide) (by decide) (by rw [hml]; rfl) (lenOf o_pd11 rfl) rfl (Nat.le_of_eq rfl) (hb hby d_jdk_68_method_73_code_2) (n := 5) rfl ?_
  intro v1 T1 L1 X1 q1
  obtain ⟨rfl, e1, rfl⟩ := q1
  have N2 := Fr.app N0 (Fr.nil n0)
  show Goes _ _ p e below s _ _ _ (T1.setTop (mkF m 5 #[.val (.ref a1), .val (.int (0 : Int32)), .val (.ref s1)] []))
  refine o_aloadN X1 hx (hb hby d_jdk_68_method_73_code_5) (v := (.ref s1)) rfl rfl (n := 6) rfl ?_
  refine o_aloadN X1 hx (hb hby d_jdk_68_method_73_code_6) (v := (.ref a1)) rfl rfl (n := 7) rfl ?_
  refine o_getfield X1 hx hZ hown (host := "") (Or.inl (hw _ (List.mem_of_getElem? (i := 96) rfl))) Via.refl e1 pF_a1_value (hb hby d_jdk_68_method_73_code_7) (n := 10) rfl ?_
  intro T3 X3 e3
  refine o_iloadN X3 hx (hb hby d_jdk_68_method_73_code_10) (v := (0 : Int32)) rfl (n := 11) rfl ?_
  refine o_aloadN X3 hx (hb hby d_jdk_68_method_73_code_11) (v := (.ref a1)) rfl rfl (n := 12) rfl ?_
  refine o_getfield X3 hx hZ hown (host := "") (Or.inl (hw _ (List.mem_of_getElem? (i := 98) rfl))) Via.refl e3 pF_a1_coder (hb hby d_jdk_68_method_73_code_12) (n := 15) rfl ?_
  intro T4 X4 e4
  refine o_callV X4 hx hZ hown (hw _ (List.mem_of_getElem? (i := 138) rfl)) (hw _ (List.mem_of_getElem? (i := 139) rfl)) (hw _ (List.mem_of_getElem? (i := 141) rfl)) (hw _ (List.mem_of_getElem? (i := 140) rfl)) (hw _ (List.mem_of_getElem? (i := 3) rfl)) (hw _ (List.mem_of_getElem? (i := 142) rfl)) (by decide) e4 pE_s1 (argsL := [(.ref r), (.int (0 : Int32)), (.int (0 : Int32))]) (rest := []) (c_gb20 l Z a0 hw s1 u ku r kr cs b0 b1 h0 n0 Z0 pg_r pE_s1 pF_s1_coder pF_s1_value pV_u pV_r pne_u_r pne_s1_r pS_COMPACT_STRINGS hcs) 0 (by decide) (by decide) (by decide) (by decide) (by rw [hml]; rfl) (lenOf o_pd12 rfl) rfl (Nat.le_of_eq rfl) (hb hby d_jdk_68_method_73_code_15) (n := 18) rfl ?_
  intro v5 T5 L5 X5 q5
  obtain ⟨rfl, Nq5, K5, o5_0⟩ := q5
  have N6 := Fr.app N2 Nq5
  have f7 := pE_a1.keep K5
  have f8 := pF_a1_value.keep K5 (ninS pne_a1_r nin0)
  have f9 := pF_a1_coder.keep K5 (ninS pne_a1_r nin0)
  have f10 := pE_s1.keep K5
  have f11 := pF_s1_coder.keep K5 (ninS pne_s1_r nin0)
  have f12 := pF_s1_value.keep K5 (ninS pne_s1_r nin0)
  have f13 := pV_u.keep K5 (ninS pne_u_r nin0)
  have f15 := o_sta_keep pS_COMPACT_STRINGS K5 (allS (P := fun a => ∀ cl : Cell, h0[a]? = some cl → cl.vm.isStatics = false) (o_arv_ns pV_r) all0)
  have zz5 : n0 ≤ T5.heap.size := Nat.le_trans Z0 K5.1
  have K16 : Keep h0 T5.heap [r] := (Keep.refl h0 [r]).trans K5 (allS (P := fun x => x ∈ [r] ∨ h0.size ≤ x) (Or.inl (List.mem_of_getElem? (i := 0) rfl)) all0)
  show Goes _ _ p e below s _ _ _ (T5.setTop (mkF m 18 #[.val (.ref a1), .val (.int (0 : Int32)), .val (.ref s1)] []))
  exact o_return X5 hx hret hlk (hb hby d_jdk_68_method_73_code_18) (by decide) (by decide) (rfl : T5.heap = T5.heap) ⟨rfl, N6, K16, o5_0⟩
theorem d_jdk_68_method_22_code_0 : decode jdk_68_method_22_code 0 = .ok (.aload_n 1, 1) := by decide +kernel
theorem d_jdk_68_method_22_code_1 : decode jdk_68_method_22_code 1 = .ok (.ifnonnull 8, 3) := by decide +kernel
theorem d_jdk_68_method_22_code_9 : decode jdk_68_method_22_code 9 = .ok (.aload_n 1, 1) := by decide +kernel
theorem d_jdk_68_method_22_code_10 : decode jdk_68_method_22_code 10 = .ok (.invokevirtual 32, 3) := by decide +kernel
theorem o_pd13 : parseMethodDescriptor "()I" = some ⟨[], some .int⟩ := by decide +kernel
theorem d_jdk_68_method_22_code_13 : decode jdk_68_method_22_code 13 = .ok (.istore_n 2, 1) := by decide +kernel
theorem d_jdk_68_method_22_code_14 : decode jdk_68_method_22_code 14 = .ok (.aload_n 0, 1) := by decide +kernel
theorem d_jdk_68_method_22_code_15 : decode jdk_68_method_22_code 15 = .ok (.aload_n 0, 1) := by decide +kernel
theorem d_jdk_68_method_22_code_16 : decode jdk_68_method_22_code 16 = .ok (.getfield 79, 3) := by decide +kernel
theorem d_jdk_68_method_22_code_19 : decode jdk_68_method_22_code 19 = .ok (.iload_n 2, 1) := by decide +kernel
theorem d_jdk_68_method_22_code_20 : decode jdk_68_method_22_code 20 = .ok (.iadd, 1) := by decide +kernel
theorem d_jdk_68_method_22_code_21 : decode jdk_68_method_22_code 21 = .ok (.invokevirtual 100, 3) := by decide +kernel
theorem d_jdk_68_method_22_code_24 : decode jdk_68_method_22_code 24 = .ok (.aload_n 0, 1) := by decide +kernel
theorem d_jdk_68_method_22_code_25 : decode jdk_68_method_22_code 25 = .ok (.aload_n 0, 1) := by decide +kernel
theorem d_jdk_68_method_22_code_26 : decode jdk_68_method_22_code 26 = .ok (.getfield 79, 3) := by decide +kernel
theorem d_jdk_68_method_22_code_29 : decode jdk_68_method_22_code 29 = .ok (.aload_n 1, 1) := by decide +kernel
theorem d_jdk_68_method_22_code_30 : decode jdk_68_method_22_code 30 = .ok (.invokevirtual 208, 3) := by decide +kernel
theorem o_pd14 : parseMethodDescriptor "(ILjava/lang/String;)V" = some ⟨[.int, (.object "java/lang/String")], none⟩ := by decide +kernel
theorem d_jdk_68_method_22_code_33 : decode jdk_68_method_22_code 33 = .ok (.aload_n 0, 1) := by decide +kernel
theorem d_jdk_68_method_22_code_34 : decode jdk_68_method_22_code 34 = .ok (.dup, 1) := by decide +kernel
theorem d_jdk_68_method_22_code_35 : decode jdk_68_method_22_code 35 = .ok (.getfield 79, 3) := by decide +kernel
theorem d_jdk_68_method_22_code_38 : decode jdk_68_method_22_code 38 = .ok (.iload_n 2, 1) := by decide +kernel
theorem d_jdk_68_method_22_code_39 : decode jdk_68_method_22_code 39 = .ok (.iadd, 1) := by decide +kernel
theorem d_jdk_68_method_22_code_40 : decode jdk_68_method_22_code 40 = .ok (.putfield 79, 3) := by decide +kernel
theorem d_jdk_68_method_22_code_43 : decode jdk_68_method_22_code 43 = .ok (.aload_n 0, 1) := by decide +kernel
theorem d_jdk_68_method_22_code_44 : decode jdk_68_method_22_code 44 = .ok (.areturn, 1) := by decide +kernel
theorem o_ef32 (m : MethodId) (a1 : Addr) (s1 : Addr) : entryFrame m #[(.ref a1), (.ref s1)] 3 = mkF m 0 #[.val (.ref a1), .val (.ref s1), .unset] [] := by first | (simp [entryFrame, mkF, argsToLocals, Value.category]; done) | rfl
set_option maxRecDepth 65536 in
set_option maxHeartbeats 40000000 in
theorem c_ap20 (l : Launch) (Z : State) (a0 : Array Value) (hw : ∀ d ∈ tables_1, d.before a0 Z = true) (a1 : Addr) (s1 : Addr) (u : Addr) (ku : ClassId) (r : Addr) (kr : ClassId) (cs : Int32) (b0 : Int32) (b1 : Int32) (h0 : Heap) (n0 : Nat) (Z0 : n0 ≤ h0.size) (pg_a1 : n0 ≤ a1) (pg_r : n0 ≤ r) (pE_a1 : Exa Z h0 a1 "java/lang/StringBuilder") (pF_a1_value : Fld Z h0 a1 "java/lang/AbstractStringBuilder" "value" "[B" (.ref r)) (pF_a1_coder : Fld Z h0 a1 "java/lang/AbstractStringBuilder" "coder" "B" (.int (0 : Int32))) (pF_a1_count : Fld Z h0 a1 "java/lang/AbstractStringBuilder" "count" "I" (.int (0 : Int32))) (pE_s1 : Exa Z h0 s1 "java/lang/String") (pF_s1_coder : Fld Z h0 s1 "java/lang/String" "coder" "B" (.int (0 : Int32))) (pF_s1_value : Fld Z h0 s1 "java/lang/String" "value" "[B" (.ref u)) (pV_u : Arv Z h0 u ku .byte (2 : Int32) [(.int b0), (.int b1)] (.int (0 : Int32))) (pV_r : Arv Z h0 r kr .byte (16 : Int32) [(.int (0 : Int32)), (.int (0 : Int32)), (.int (0 : Int32)), (.int (0 : Int32)), (.int (0 : Int32)), (.int (0 : Int32)), (.int (0 : Int32)), (.int (0 : Int32)), (.int (0 : Int32)), (.int (0 : Int32)), (.int (0 : Int32)), (.int (0 : Int32)), (.int (0 : Int32)), (.int (0 : Int32)), (.int (0 : Int32)), (.int (0 : Int32))] (.int (0 : Int32))) (pne_u_r : u ≠ r) (pne_s1_r : s1 ≠ r) (pne_a1_r : a1 ≠ r) (pne_a1_s1 : a1 ≠ s1) (pne_a1_u : a1 ≠ u) (pS_COMPACT_STRINGS : Sta Z h0 "java/lang/String" "COMPACT_STRINGS" "Z" (.int cs)) (hcs : ¬ cs = (0 : Int32)) :
    Does l Z (⟨"java/lang/AbstractStringBuilder", "append", "(Ljava/lang/String;)Ljava/lang/AbstractStringBuilder;"⟩ : MethodName) jdk_68_method_22_code 3 (some (.object "java/lang/AbstractStringBuilder")) [] ({ frames := 3, cells := 0, slots := 0, locals := 47 } : Room) #[(.ref a1), (.ref s1)] h0 (fun v h L => v = some (.ref a1) ∧ Fr n0 L ∧ Keep h0 h [a1, r] ∧ Exa Z h a1 "java/lang/StringBuilder" ∧ Fld Z h a1 "java/lang/AbstractStringBuilder" "value" "[B" (.ref r) ∧ Fld Z h a1 "java/lang/AbstractStringBuilder" "coder" "B" (.int (0 : Int32)) ∧ Fld Z h a1 "java/lang/AbstractStringBuilder" "count" "I" (.int (2 : Int32)) ∧ Arv Z h r kr .byte (16 : Int32) [(.int b0), (.int b1), (.int (0 : Int32)), (.int (0 : Int32)), (.int (0 : Int32)), (.int (0 : Int32)), (.int (0 : Int32)), (.int (0 : Int32)), (.int (0 : Int32)), (.int (0 : Int32)), (.int (0 : Int32)), (.int (0 : Int32)), (.int (0 : Int32)), (.int (0 : Int32)), (.int (0 : Int32)), (.int (0 : Int32))] (.int (0 : Int32))) := by
  refine Does.of (plainFor_of_name o_pn6) ?_
  intro p e s m below meth c T0 hx hby hml hown hnm hret hlk hZ X0 e0
  have hown : s.vm.findClass "java/lang/AbstractStringBuilder" = some m.cls := hown
  have hml : c.maxLocals = 3 := hml
  have hret : meth.sig.returnType = some (.object "java/lang/AbstractStringBuilder") := hret
  refine o_entry (o_ef32 m a1 s1) ?_
  have N0 := Fr.nil n0
  refine o_aloadN X0 hx (hb hby d_jdk_68_method_22_code_0) (v := (.ref s1)) rfl rfl (n := 1) rfl ?_
  refine o_ifnonnullY X0 hx (hb hby d_jdk_68_method_22_code_1) (by decide) (n := 9) (by decide) ?_
  refine o_aloadN X0 hx (hb hby d_jdk_68_method_22_code_9) (v := (.ref s1)) rfl rfl (n := 10) rfl ?_
  refine o_callV X0 hx hZ hown (hw _ (List.mem_of_getElem? (i := 110) rfl)) (hw _ (List.mem_of_getElem? (i := 111) rfl)) (hw _ (List.mem_of_getElem? (i := 113) rfl)) (hw _ (List.mem_of_getElem? (i := 112) rfl)) (hw _ (List.mem_of_getElem? (i := 3) rfl)) (hw _ (List.mem_of_getElem? (i := 114) rfl)) (by decide) e0 pE_s1 (argsL := []) (rest := []) (c_len2 l Z a0 hw s1 u ku ([(.int b0), (.int b1)]) cs h0 pE_s1 pF_s1_coder pF_s1_value pV_u pS_COMPACT_STRINGS hcs) 0 (by decide) (by decide) (by decide) (by decide) (by rw [hml]; rfl) (lenOf o_pd13 rfl) rfl (Nat.le_of_eq rfl) (hb hby d_jdk_68_method_22_code_10) (n := 13) rfl ?_
  intro v1 T1 L1 X1 q1
  obtain ⟨rfl, e1, rfl⟩ := q1
  have N2 := Fr.app N0 (Fr.nil n0)
  show Goes _ _ p e below s _ _ _ (T1.setTop (mkF m 13 #[.val (.ref a1), .val (.ref s1), .unset] [(.int (2 : Int32))]))
  refine o_istoreN X1 hx (hb hby d_jdk_68_method_22_code_13) (Ls' := #[.val (.ref a1), .val (.ref s1), .val (.int (2 : Int32))]) rfl (n := 14) rfl ?_
  refine o_aloadN X1 hx (hb hby d_jdk_68_method_22_code_14) (v := (.ref a1)) rfl rfl (n := 15) rfl ?_
  refine o_aloadN X1 hx (hb hby d_jdk_68_method_22_code_15) (v := (.ref a1)) rfl rfl (n := 16) rfl ?_
  refine o_getfield X1 hx hZ hown (host := "") (Or.inl (hw _ (List.mem_of_getElem? (i := 120) rfl))) Via.refl e1 pF_a1_count (hb hby d_jdk_68_method_22_code_16) (n := 19) rfl ?_
  intro T3 X3 e3
  refine o_iloadN X3 hx (hb hby d_jdk_68_method_22_code_19) (v := (2 : Int32)) rfl (n := 20) rfl ?_
  refine o_iadd X3 hx (hb hby d_jdk_68_method_22_code_20) (v := (2 : Int32)) (by decide) (n := 21) rfl ?_
  refine o_callP2 X3 hx hZ hown (hw _ (List.mem_of_getElem? (i := 122) rfl)) (hw _ (List.mem_of_getElem? (i := 123) rfl)) (hw _ (List.mem_of_getElem? (i := 124) rfl)) (hw _ (List.mem_of_getElem? (i := 125) rfl)) (hw _ (List.mem_of_getElem? (i := 92) rfl)) (hw _ (List.mem_of_getElem? (i := 126) rfl)) (by decide) e3 pE_a1 (argsL := [(.int (2 : Int32))]) (rest := []) (c_ens2 l Z a0 hw a1 r kr ([(.int (0 : Int32)), (.int (0 : Int32)), (.int (0 : Int32)), (.int (0 : Int32)), (.int (0 : Int32)), (.int (0 : Int32)), (.int (0 : Int32)), (.int (0 : Int32)), (.int (0 : Int32)), (.int (0 : Int32)), (.int (0 : Int32)), (.int (0 : Int32)), (.int (0 : Int32)), (.int (0 : Int32)), (.int (0 : Int32)), (.int (0 : Int32))]) h0 pE_a1 pF_a1_value pF_a1_coder pV_r) 0 (by decide) (by decide) (by decide) (by decide) (by rw [hml]; rfl) (lenOf o_pd9 rfl) rfl (Nat.le_of_eq rfl) (hb hby d_jdk_68_method_22_code_21) (n := 24) rfl ?_
  intro v4 T4 L4 X4 q4
  obtain ⟨rfl, e4, rfl⟩ := q4
  have N5 := Fr.app N2 (Fr.nil n0)
  show Goes _ _ p e below s _ _ _ (T4.setTop (mkF m 24 #[.val (.ref a1), .val (.ref s1), .val (.int (2 : Int32))] []))
  refine o_aloadN X4 hx (hb hby d_jdk_68_method_22_code_24) (v := (.ref a1)) rfl rfl (n := 25) rfl ?_
  refine o_aloadN X4 hx (hb hby d_jdk_68_method_22_code_25) (v := (.ref a1)) rfl rfl (n := 26) rfl ?_
  refine o_getfield X4 hx hZ hown (host := "") (Or.inl (hw _ (List.mem_of_getElem? (i := 120) rfl))) Via.refl e4 pF_a1_count (hb hby d_jdk_68_method_22_code_26) (n := 29) rfl ?_
  intro T6 X6 e6
  refine o_aloadN X6 hx (hb hby d_jdk_68_method_22_code_29) (v := (.ref s1)) rfl rfl (n := 30) rfl ?_
  refine o_callP2 X6 hx hZ hown (hw _ (List.mem_of_getElem? (i := 127) rfl)) (hw _ (List.mem_of_getElem? (i := 128) rfl)) (hw _ (List.mem_of_getElem? (i := 129) rfl)) (hw _ (List.mem_of_getElem? (i := 130) rfl)) (hw _ (List.mem_of_getElem? (i := 92) rfl)) (hw _ (List.mem_of_getElem? (i := 131) rfl)) (by decide) e6 pE_a1 (argsL := [(.int (0 : Int32)), (.ref s1)]) (rest := []) (c_pu20 l Z a0 hw a1 s1 u ku r kr cs b0 b1 h0 n0 Z0 pg_r pE_a1 pF_a1_value pF_a1_coder pE_s1 pF_s1_coder pF_s1_value pV_u pV_r pne_u_r pne_s1_r pne_a1_r pne_a1_s1 pne_a1_u pS_COMPACT_STRINGS hcs) 0 (by decide) (by decide) (by decide) (by decide) (by rw [hml]; rfl) (lenOf o_pd14 rfl) rfl (Nat.le_of_eq rfl) (hb hby d_jdk_68_method_22_code_30) (n := 33) rfl ?_
  intro v7 T7 L7 X7 q7
  obtain ⟨rfl, Nq7, K7, o7_0⟩ := q7
  have N8 := Fr.app N5 Nq7
  have f9 := pE_a1.keep K7
  have f10 := pF_a1_value.keep K7 (ninS pne_a1_r nin0)
  have f11 := pF_a1_coder.keep K7 (ninS pne_a1_r nin0)
  have f12 := pF_a1_count.keep K7 (ninS pne_a1_r nin0)
  have f13 := pE_s1.keep K7
  have f14 := pF_s1_coder.keep K7 (ninS pne_s1_r nin0)
  have f15 := pF_s1_value.keep K7 (ninS pne_s1_r nin0)
  have f16 := pV_u.keep K7 (ninS pne_u_r nin0)
  have f18 := o_sta_keep pS_COMPACT_STRINGS K7 (allS (P := fun a => ∀ cl : Cell, h0[a]? = some cl → cl.vm.isStatics = false) (o_arv_ns pV_r) all0)
  have zz7 : n0 ≤ T7.heap.size := Nat.le_trans Z0 K7.1
  have K19 : Keep h0 T7.heap [a1, r] := (Keep.refl h0 [a1, r]).trans K7 (allS (P := fun x => x ∈ [a1, r] ∨ h0.size ≤ x) (Or.inl (List.mem_of_getElem? (i := 1) rfl)) all0)
  show Goes _ _ p e below s _ _ _ (T7.setTop (mkF m 33 #[.val (.ref a1), .val (.ref s1), .val (.int (2 : Int32))] []))
  refine o_aloadN X7 hx (hb hby d_jdk_68_method_22_code_33) (v := (.ref a1)) rfl rfl (n := 34) rfl ?_
  refine o_dup X7 hx (hb hby d_jdk_68_method_22_code_34) rfl (n := 35) rfl ?_
  refine o_getfield X7 hx hZ hown (host := "") (Or.inl (hw _ (List.mem_of_getElem? (i := 120) rfl))) Via.refl (rfl : T7.heap = T7.heap) f12 (hb hby d_jdk_68_method_22_code_35) (n := 38) rfl ?_
  intro T20 X20 e20
  refine o_iloadN X20 hx (hb hby d_jdk_68_method_22_code_38) (v := (2 : Int32)) rfl (n := 39) rfl ?_
  refine o_iadd X20 hx (hb hby d_jdk_68_method_22_code_39) (v := (2 : Int32)) (by decide) (n := 40) rfl ?_
  refine o_putfield X20 hx hZ hown (host := "") (Or.inl (hw _ (List.mem_of_getElem? (i := 120) rfl))) Via.refl e20 f12 f9 (Or.inl (hw _ (List.mem_of_getElem? (i := 121) rfl))) (hw _ (List.mem_of_getElem? (i := 83) rfl)) (ty := .int) (by decide) rfl rfl (hb hby d_jdk_68_method_22_code_40) (n := 43) rfl ?_
  intro T21 h21 X21 e21 W21 F21 E_21
  have f22 := f10.other W21 (Or.inr (slot_ne (Or.inl (hw _ (List.mem_of_getElem? (i := 97) rfl))) (Or.inl (hw _ (List.mem_of_getElem? (i := 121) rfl))) (by decide) (t := (.array .byte)) (t' := .int) (by decide) (by decide)))
  have f23 := f11.other W21 (Or.inr (slot_ne (Or.inl (hw _ (List.mem_of_getElem? (i := 99) rfl))) (Or.inl (hw _ (List.mem_of_getElem? (i := 121) rfl))) (by decide) (t := .byte) (t' := .int) (by decide) (by decide)))
  have f24 := f13.wr W21
  have f25 := f14.other W21 (Or.inl (Ne.symm pne_a1_s1))
  have f26 := f15.other W21 (Or.inl (Ne.symm pne_a1_s1))
  have f27 := f16.other W21 (Ne.symm pne_a1_u)
  have f28 := f18.wr W21
  have f29 := o7_0.other W21 (Ne.symm pne_a1_r)
  have zz21 : n0 ≤ h21.size := Nat.le_trans zz7 (Nat.le_of_eq W21.size.symm)
  have N30 := Fr.snoc X21 N8 pg_a1
  have K31 : Keep h0 h21 [a1, r] := K19.wr W21 (Or.inl (List.mem_of_getElem? (i := 0) rfl))
  refine o_aloadN X21 hx (hb hby d_jdk_68_method_22_code_43) (v := (.ref a1)) rfl rfl (n := 44) rfl ?_
  exact o_areturn X21 hx hret hlk rfl rfl (hb hby d_jdk_68_method_22_code_44) (by decide) (by decide) e21 ⟨rfl, N30, K31, E_21, f22, f23, F21, f29⟩
theorem d_jdk_67_method_7_code_0 : decode jdk_67_method_7_code 0 = .ok (.aload_n 0, 1) := by decide +kernel
theorem d_jdk_67_method_7_code_1 : decode jdk_67_method_7_code 1 = .ok (.aload_n 1, 1) := by decide +kernel
theorem d_jdk_67_method_7_code_2 : decode jdk_67_method_7_code 2 = .ok (.invokespecial 29, 3) := by decide +kernel
theorem o_pd15 : parseMethodDescriptor "(Ljava/lang/String;)Ljava/lang/AbstractStringBuilder;" = some ⟨[(.object "java/lang/String")], some (.object "java/lang/AbstractStringBuilder")⟩ := by decide +kernel
theorem d_jdk_67_method_7_code_5 : decode jdk_67_method_7_code 5 = .ok (.pop, 1) := by decide +kernel
theorem d_jdk_67_method_7_code_6 : decode jdk_67_method_7_code 6 = .ok (.aload_n 0, 1) := by decide +kernel
theorem d_jdk_67_method_7_code_7 : decode jdk_67_method_7_code 7 = .ok (.areturn, 1) := by decide +kernel
theorem o_ef33 (m : MethodId) (a1 : Addr) (s1 : Addr) : entryFrame m #[(.ref a1), (.ref s1)] 2 = mkF m 0 #[.val (.ref a1), .val (.ref s1)] [] := by first | (simp [entryFrame, mkF, argsToLocals, Value.category]; done) | rfl
set_option maxRecDepth 65536 in
set_option maxHeartbeats 40000000 in
theorem c_sp20 (l : Launch) (Z : State) (a0 : Array Value) (hw : ∀ d ∈ tables_1, d.before a0 Z = true) (a1 : Addr) (s1 : Addr) (u : Addr) (ku : ClassId) (r : Addr) (kr : ClassId) (cs : Int32) (b0 : Int32) (b1 : Int32) (h0 : Heap) (n0 : Nat) (Z0 : n0 ≤ h0.size) (pg_a1 : n0 ≤ a1) (pg_r : n0 ≤ r) (pE_a1 : Exa Z h0 a1 "java/lang/StringBuilder") (pF_a1_value : Fld Z h0 a1 "java/lang/AbstractStringBuilder" "value" "[B" (.ref r)) (pF_a1_coder : Fld Z h0 a1 "java/lang/AbstractStringBuilder" "coder" "B" (.int (0 : Int32))) (pF_a1_count : Fld Z h0 a1 "java/lang/AbstractStringBuilder" "count" "I" (.int (0 : Int32))) (pE_s1 : Exa Z h0 s1 "java/lang/String") (pF_s1_coder : Fld Z h0 s1 "java/lang/String" "coder" "B" (.int (0 : Int32))) (pF_s1_value : Fld Z h0 s1 "java/lang/String" "value" "[B" (.ref u)) (pV_u : Arv Z h0 u ku .byte (2 : Int32) [(.int b0), (.int b1)] (.int (0 : Int32))) (pV_r : Arv Z h0 r kr .byte (16 : Int32) [(.int (0 : Int32)), (.int (0 : Int32)), (.int (0 : Int32)), (.int (0 : Int32)), (.int (0 : Int32)), (.int (0 : Int32)), (.int (0 : Int32)), (.int (0 : Int32)), (.int (0 : Int32)), (.int (0 : Int32)), (.int (0 : Int32)), (.int (0 : Int32)), (.int (0 : Int32)), (.int (0 : Int32)), (.int (0 : Int32)), (.int (0 : Int32))] (.int (0 : Int32))) (pne_u_r : u ≠ r) (pne_s1_r : s1 ≠ r) (pne_a1_r : a1 ≠ r) (pne_a1_s1 : a1 ≠ s1) (pne_a1_u : a1 ≠ u) (pS_COMPACT_STRINGS : Sta Z h0 "java/lang/String" "COMPACT_STRINGS" "Z" (.int cs)) (hcs : ¬ cs = (0 : Int32)) :
    Does l Z (⟨"java/lang/StringBuilder", "append", "(Ljava/lang/String;)Ljava/lang/StringBuilder;"⟩ : MethodName) jdk_67_method_7_code 2 (some (.object "java/lang/StringBuilder")) [] ({ frames := 4, cells := 0, slots := 0, locals := 61 } : Room) #[(.ref a1), (.ref s1)] h0 (fun v h L => v = some (.ref a1) ∧ Fr n0 L ∧ Keep h0 h [a1, r] ∧ Exa Z h a1 "java/lang/StringBuilder" ∧ Fld Z h a1 "java/lang/AbstractStringBuilder" "value" "[B" (.ref r) ∧ Fld Z h a1 "java/lang/AbstractStringBuilder" "coder" "B" (.int (0 : Int32)) ∧ Fld Z h a1 "java/lang/AbstractStringBuilder" "count" "I" (.int (2 : Int32)) ∧ Arv Z h r kr .byte (16 : Int32) [(.int b0), (.int b1), (.int (0 : Int32)), (.int (0 : Int32)), (.int (0 : Int32)), (.int (0 : Int32)), (.int (0 : Int32)), (.int (0 : Int32)), (.int (0 : Int32)), (.int (0 : Int32)), (.int (0 : Int32)), (.int (0 : Int32)), (.int (0 : Int32)), (.int (0 : Int32)), (.int (0 : Int32)), (.int (0 : Int32))] (.int (0 : Int32))) := by
  refine Does.of (plainFor_of_name o_pn7) ?_
  intro p e s m below meth c T0 hx hby hml hown hnm hret hlk hZ X0 e0
  have hown : s.vm.findClass "java/lang/StringBuilder" = some m.cls := hown
  have hml : c.maxLocals = 2 := hml
  have hret : meth.sig.returnType = some (.object "java/lang/StringBuilder") := hret
  refine o_entry (o_ef33 m a1 s1) ?_
  have N0 := Fr.nil n0
  refine o_aloadN X0 hx (hb hby d_jdk_67_method_7_code_0) (v := (.ref a1)) rfl rfl (n := 1) rfl ?_
  refine o_aloadN X0 hx (hb hby d_jdk_67_method_7_code_1) (v := (.ref s1)) rfl rfl (n := 2) rfl ?_
  refine o_super X0 hx hZ hown (hw _ (List.mem_of_getElem? (i := 105) rfl)) (o_same (y := ({ cls := "java/lang/AbstractStringBuilder", name := "getValue", desc := "()[B" } : Jvm.MethodName)) (z := ({ cls := "java/lang/AbstractStringBuilder", name := "getValue", desc := "()[B" } : Jvm.MethodName)) (w := ({ cls := "java/lang/AbstractStringBuilder", name := "append", desc := "(Ljava/lang/String;)Ljava/lang/AbstractStringBuilder;" } : Jvm.MethodName)) (hw _ (List.mem_of_getElem? (i := 165) rfl)) rfl rfl (by decide) (hw _ (List.mem_of_getElem? (i := 106) rfl))) (hw _ (List.mem_of_getElem? (i := 106) rfl)) (hw _ (List.mem_of_getElem? (i := 107) rfl)) (by decide) (hw _ (List.mem_of_getElem? (i := 92) rfl)) (hw _ (List.mem_of_getElem? (i := 109) rfl)) e0 pE_a1 (argsL := [(.ref s1)]) (rest := []) (c_ap20 l Z a0 hw a1 s1 u ku r kr cs b0 b1 h0 n0 Z0 pg_a1 pg_r pE_a1 pF_a1_value pF_a1_coder pF_a1_count pE_s1 pF_s1_coder pF_s1_value pV_u pV_r pne_u_r pne_s1_r pne_a1_r pne_a1_s1 pne_a1_u pS_COMPACT_STRINGS hcs) 0 (by decide) (by decide) (by decide) (by decide) (by rw [hml]; rfl) (lenOf o_pd15 rfl) rfl (Nat.le_of_eq rfl) (hb hby d_jdk_67_method_7_code_2) (n := 5) rfl ?_
  intro v1 T1 L1 X1 q1
  obtain ⟨rfl, Nq1, K1, o1_0, o1_1, o1_2, o1_3, o1_4⟩ := q1
  have N2 := Fr.app N0 Nq1
  have f3 := pE_a1.keep K1
  have f7 := pE_s1.keep K1
  have f8 := pF_s1_coder.keep K1 (ninS (Ne.symm pne_a1_s1) (ninS pne_s1_r nin0))
  have f9 := pF_s1_value.keep K1 (ninS (Ne.symm pne_a1_s1) (ninS pne_s1_r nin0))
  have f10 := pV_u.keep K1 (ninS (Ne.symm pne_a1_u) (ninS pne_u_r nin0))
  have f12 := o_sta_keep pS_COMPACT_STRINGS K1 (allS (P := fun a => ∀ cl : Cell, h0[a]? = some cl → cl.vm.isStatics = false) (o_exa_ns pE_a1) (allS (P := fun a => ∀ cl : Cell, h0[a]? = some cl → cl.vm.isStatics = false) (o_arv_ns pV_r) all0))
  have zz1 : n0 ≤ T1.heap.size := Nat.le_trans Z0 K1.1
  have K13 : Keep h0 T1.heap [a1, r] := (Keep.refl h0 [a1, r]).trans K1 (allS (P := fun x => x ∈ [a1, r] ∨ h0.size ≤ x) (Or.inl (List.mem_of_getElem? (i := 0) rfl)) (allS (P := fun x => x ∈ [a1, r] ∨ h0.size ≤ x) (Or.inl (List.mem_of_getElem? (i := 1) rfl)) all0))
  show Goes _ _ p e below s _ _ _ (T1.setTop (mkF m 5 #[.val (.ref a1), .val (.ref s1)] [(.ref a1)]))
  refine o_pop X1 hx (hb hby d_jdk_67_method_7_code_5) rfl (n := 6) rfl ?_
  refine o_aloadN X1 hx (hb hby d_jdk_67_method_7_code_6) (v := (.ref a1)) rfl rfl (n := 7) rfl ?_
  exact o_areturn X1 hx hret hlk rfl rfl (hb hby d_jdk_67_method_7_code_7) (by decide) (by decide) (rfl : T1.heap = T1.heap) ⟨rfl, N2, K13, o1_0, o1_1, o1_2, o1_3, o1_4⟩
theorem o_ef34 (m : MethodId) (s1 : Addr) (r : Addr) : entryFrame m #[(.ref s1), (.ref r), (.int (2 : Int32)), (.int (0 : Int32))] 4 = mkF m 0 #[.val (.ref s1), .val (.ref r), .val (.int (2 : Int32)), .val (.int (0 : Int32))] [] := by first | (simp [entryFrame, mkF, argsToLocals, Value.category]; done) | rfl
set_option maxRecDepth 65536 in
set_option maxHeartbeats 40000000 in
theorem c_gb12 (l : Launch) (Z : State) (a0 : Array Value) (hw : ∀ d ∈ tables_1, d.before a0 Z = true) (s1 : Addr) (u : Addr) (ku : ClassId) (r : Addr) (kr : ClassId) (cs : Int32) (d0 : Int32) (d1 : Int32) (b0 : Int32) (h0 : Heap) (n0 : Nat) (Z0 : n0 ≤ h0.size) (pg_r : n0 ≤ r) (pE_s1 : Exa Z h0 s1 "java/lang/String") (pF_s1_coder : Fld Z h0 s1 "java/lang/String" "coder" "B" (.int (0 : Int32))) (pF_s1_value : Fld Z h0 s1 "java/lang/String" "value" "[B" (.ref u)) (pV_u : Arv Z h0 u ku .byte (1 : Int32) [(.int b0)] (.int (0 : Int32))) (pV_r : Arv Z h0 r kr .byte (16 : Int32) [(.int d0), (.int d1), (.int (0 : Int32)), (.int (0 : Int32)), (.int (0 : Int32)), (.int (0 : Int32)), (.int (0 : Int32)), (.int (0 : Int32)), (.int (0 : Int32)), (.int (0 : Int32)), (.int (0 : Int32)), (.int (0 : Int32)), (.int (0 : Int32)), (.int (0 : Int32)), (.int (0 : Int32)), (.int (0 : Int32))] (.int (0 : Int32))) (pne_u_r : u ≠ r) (pne_s1_r : s1 ≠ r) (pS_COMPACT_STRINGS : Sta Z h0 "java/lang/String" "COMPACT_STRINGS" "Z" (.int cs)) (hcs : ¬ cs = (0 : Int32)) :
    Does l Z (⟨"java/lang/String", "getBytes", "([BIB)V"⟩ : MethodName) jdk_42_method_147_code 4 none [] ({ frames := 1, cells := 0, slots := 0, locals := 18 } : Room) #[(.ref s1), (.ref r), (.int (2 : Int32)), (.int (0 : Int32))] h0 (fun v h L => v = none ∧ Fr n0 L ∧ Keep h0 h [r] ∧ Arv Z h r kr .byte (16 : Int32) [(.int d0), (.int d1), (.int b0), (.int (0 : Int32)), (.int (0 : Int32)), (.int (0 : Int32)), (.int (0 : Int32)), (.int (0 : Int32)), (.int (0 : Int32)), (.int (0 : Int32)), (.int (0 : Int32)), (.int (0 : Int32)), (.int (0 : Int32)), (.int (0 : Int32)), (.int (0 : Int32)), (.int (0 : Int32))] (.int (0 : Int32))) := by
  refine Does.of (plainFor_of_name o_pn1) ?_
  intro p e s m below meth c T0 hx hby hml hown hnm hret hlk hZ X0 e0
  have hown : s.vm.findClass "java/lang/String" = some m.cls := hown
  have hml : c.maxLocals = 4 := hml
  have hret : meth.sig.returnType = none := hret
  refine o_entry (o_ef34 m s1 r) ?_
  have N0 := Fr.nil n0
  refine o_aloadN X0 hx (hb hby d_jdk_42_method_147_code_0) (v := (.ref s1)) rfl rfl (n := 1) rfl ?_
  refine o_callV X0 hx hZ hown (hw _ (List.mem_of_getElem? (i := 115) rfl)) (hw _ (List.mem_of_getElem? (i := 116) rfl)) (hw _ (List.mem_of_getElem? (i := 118) rfl)) (hw _ (List.mem_of_getElem? (i := 117) rfl)) (hw _ (List.mem_of_getElem? (i := 3) rfl)) (hw _ (List.mem_of_getElem? (i := 119) rfl)) (by decide) e0 pE_s1 (argsL := []) (rest := []) (c_cod l Z a0 hw s1 cs h0 pF_s1_coder pS_COMPACT_STRINGS hcs) 0 (by decide) (by decide) (by decide) (by decide) (by rw [hml]; rfl) (lenOf o_pd10 rfl) rfl (Nat.le_of_eq rfl) (hb hby d_jdk_42_method_147_code_1) (n := 4) rfl ?_
  intro v1 T1 L1 X1 q1
  obtain ⟨rfl, e1, rfl⟩ := q1
  have N2 := Fr.app N0 (Fr.nil n0)
  show Goes _ _ p e below s _ _ _ (T1.setTop (mkF m 4 #[.val (.ref s1), .val (.ref r), .val (.int (2 : Int32)), .val (.int (0 : Int32))] [(.int (0 : Int32))]))
  refine o_iloadN X1 hx (hb hby d_jdk_42_method_147_code_4) (v := (0 : Int32)) rfl (n := 5) rfl ?_
  refine o_icmpN X1 hx (hb hby d_jdk_42_method_147_code_5) (XT.ii_ne_f (by decide)) (n := 8) rfl ?_
  refine o_aloadN X1 hx (hb hby d_jdk_42_method_147_code_8) (v := (.ref s1)) rfl rfl (n := 9) rfl ?_
  refine o_getfield X1 hx hZ hown (host := "") (Or.inl (hw _ (List.mem_of_getElem? (i := 28) rfl))) Via.refl e1 pF_s1_value (hb hby d_jdk_42_method_147_code_9) (n := 12) rfl ?_
  intro T3 X3 e3
  refine o_iconst X3 hx (hb hby d_jdk_42_method_147_code_12) (v := (0 : Int32)) rfl (n := 13) rfl ?_
  refine o_aloadN X3 hx (hb hby d_jdk_42_method_147_code_13) (v := (.ref r)) rfl rfl (n := 14) rfl ?_
  refine o_iloadN X3 hx (hb hby d_jdk_42_method_147_code_14) (v := (2 : Int32)) rfl (n := 15) rfl ?_
  refine o_iloadN X3 hx (hb hby d_jdk_42_method_147_code_15) (v := (0 : Int32)) rfl (n := 16) rfl ?_
  refine o_ishl X3 hx (hb hby d_jdk_42_method_147_code_16) (v := (2 : Int32)) (by decide) (n := 17) rfl ?_
  refine o_aloadN X3 hx (hb hby d_jdk_42_method_147_code_17) (v := (.ref s1)) rfl rfl (n := 18) rfl ?_
  refine o_getfield X3 hx hZ hown (host := "") (Or.inl (hw _ (List.mem_of_getElem? (i := 28) rfl))) Via.refl e3 pF_s1_value (hb hby d_jdk_42_method_147_code_18) (n := 21) rfl ?_
  intro T4 X4 e4
  refine o_arraylength X4 hx hZ e4 pV_u (hb hby d_jdk_42_method_147_code_21) (n := 22) rfl ?_
  refine o_acopy X4 hx hZ hown (hw _ (List.mem_of_getElem? (i := 143) rfl)) (hw _ (List.mem_of_getElem? (i := 146) rfl)) (hw _ (List.mem_of_getElem? (i := 144) rfl)) (hw _ (List.mem_of_getElem? (i := 145) rfl)) e4 pV_u pV_r (Or.inl ⟨rfl, rfl⟩) ⟨by decide, by decide, by decide, by decide, by decide, rfl, (show (2 : Int32).toNatClampNeg + (1 : Int32).toNatClampNeg ≤ 16 by decide)⟩ N2 pg_r (by rw [hml]; rfl) (hb hby d_jdk_42_method_147_code_22) (by decide) 0 (Nat.le_of_eq rfl) (by decide) (n := 25) rfl ?_
  intro T5 h5 L5 X5 e5 N5 K5 V5
  have f6 := pE_s1.keep K5
  have f7 := pF_s1_coder.keep K5 (ninS pne_s1_r nin0)
  have f8 := pF_s1_value.keep K5 (ninS pne_s1_r nin0)
  have f9 := pV_u.keep K5 (ninS pne_u_r nin0)
  have f10 := o_sta_keep pS_COMPACT_STRINGS K5 (allS (P := fun a => ∀ cl : Cell, h0[a]? = some cl → cl.vm.isStatics = false) (o_arv_ns pV_r) all0)
  have f11 : Arv Z h5 r kr .byte (16 : Int32) [(.int d0), (.int d1), (.int b0), (.int (0 : Int32)), (.int (0 : Int32)), (.int (0 : Int32)), (.int (0 : Int32)), (.int (0 : Int32)), (.int (0 : Int32)), (.int (0 : Int32)), (.int (0 : Int32)), (.int (0 : Int32)), (.int (0 : Int32)), (.int (0 : Int32)), (.int (0 : Int32)), (.int (0 : Int32))] (.int (0 : Int32)) := V5.pad (fun i => rfl)
  have zz5 : n0 ≤ h5.size := Nat.le_trans Z0 K5.1
  have K12 : Keep h0 h5 [r] := (Keep.refl h0 [r]).trans K5 (allS (P := fun x => x ∈ [r] ∨ h0.size ≤ x) (Or.inl (List.mem_of_getElem? (i := 0) rfl)) all0)
  show Goes _ _ p e below s _ _ _ (T5.setTop (mkF m 25 #[.val (.ref s1), .val (.ref r), .val (.int (2 : Int32)), .val (.int (0 : Int32))] []))
  refine o_goto X5 hx (hb hby d_jdk_42_method_147_code_25) (by decide) (n := 43) (by decide) ?_
  exact o_return X5 hx hret hlk (hb hby d_jdk_42_method_147_code_43) (by decide) (by decide) e5 ⟨rfl, N5, K12, f11⟩
theorem o_ef35 (m : MethodId) (a1 : Addr) (s1 : Addr) : entryFrame m #[(.ref a1), (.int (2 : Int32)), (.ref s1)] 3 = mkF m 0 #[.val (.ref a1), .val (.int (2 : Int32)), .val (.ref s1)] [] := by first | (simp [entryFrame, mkF, argsToLocals, Value.category]; done) | rfl
set_option maxRecDepth 65536 in
set_option maxHeartbeats 40000000 in
theorem c_pu12 (l : Launch) (Z : State) (a0 : Array Value) (hw : ∀ d ∈ tables_1, d.before a0 Z = true) (a1 : Addr) (s1 : Addr) (u : Addr) (ku : ClassId) (r : Addr) (kr : ClassId) (cs : Int32) (d0 : Int32) (d1 : Int32) (b0 : Int32) (h0 : Heap) (n0 : Nat) (Z0 : n0 ≤ h0.size) (pg_r : n0 ≤ r) (pE_a1 : Exa Z h0 a1 "java/lang/StringBuilder") (pF_a1_value : Fld Z h0 a1 "java/lang/AbstractStringBuilder" "value" "[B" (.ref r)) (pF_a1_coder : Fld Z h0 a1 "java/lang/AbstractStringBuilder" "coder" "B" (.int (0 : Int32))) (pE_s1 : Exa Z h0 s1 "java/lang/String") (pF_s1_coder : Fld Z h0 s1 "java/lang/String" "coder" "B" (.int (0 : Int32))) (pF_s1_value : Fld Z h0 s1 "java/lang/String" "value" "[B" (.ref u)) (pV_u : Arv Z h0 u ku .byte (1 : Int32) [(.int b0)] (.int (0 : Int32))) (pV_r : Arv Z h0 r kr .byte (16 : Int32) [(.int d0), (.int d1), (.int (0 : Int32)), (.int (0 : Int32)), (.int (0 : Int32)), (.int (0 : Int32)), (.int (0 : Int32)), (.int (0 : Int32)), (.int (0 : Int32)), (.int (0 : Int32)), (.int (0 : Int32)), (.int (0 : Int32)), (.int (0 : Int32)), (.int (0 : Int32)), (.int (0 : Int32)), (.int (0 : Int32))] (.int (0 : Int32))) (pne_u_r : u ≠ r) (pne_s1_r : s1 ≠ r) (pne_a1_r : a1 ≠ r) (pne_a1_s1 : a1 ≠ s1) (pne_a1_u : a1 ≠ u) (pS_COMPACT_STRINGS : Sta Z h0 "java/lang/String" "COMPACT_STRINGS" "Z" (.int cs)) (hcs : ¬ cs = (0 : Int32)) :
    Does l Z (⟨"java/lang/AbstractStringBuilder", "putStringAt", "(ILjava/lang/String;)V"⟩ : MethodName) jdk_68_method_73_code 3 none [] ({ frames := 2, cells := 0, slots := 0, locals := 33 } : Room) #[(.ref a1), (.int (2 : Int32)), (.ref s1)] h0 (fun v h L => v = none ∧ Fr n0 L ∧ Keep h0 h [r] ∧ Arv Z h r kr .byte (16 : Int32) [(.int d0), (.int d1), (.int b0), (.int (0 : Int32)), (.int (0 : Int32)), (.int (0 : Int32)), (.int (0 : Int32)), (.int (0 : Int32)), (.int (0 : Int32)), (.int (0 : Int32)), (.int (0 : Int32)), (.int (0 : Int32)), (.int (0 : Int32)), (.int (0 : Int32)), (.int (0 : Int32)), (.int (0 : Int32))] (.int (0 : Int32))) := by
  refine Does.of (plainFor_of_name o_pn6) ?_
  intro p e s m below meth c T0 hx hby hml hown hnm hret hlk hZ X0 e0
  have hown : s.vm.findClass "java/lang/AbstractStringBuilder" = some m.cls := hown
  have hml : c.maxLocals = 3 := hml
  have hret : meth.sig.returnType = none := hret
  refine o_entry (o_ef35 m a1 s1) ?_
  have N0 := Fr.nil n0
  refine o_aloadN X0 hx (hb hby d_jdk_68_method_73_code_0) (v := (.ref a1)) rfl rfl (n := 1) rfl ?_
  refine o_aloadN X0 hx (hb hby d_jdk_68_method_73_code_1) (v := (.ref s1)) rfl rfl (n := 2) rfl ?_
  refine o_callP2 X0 hx hZ hown (hw _ (List.mem_of_getElem? (i := 132) rfl)) (hw _ (List.mem_of_getElem? (i := 133) rfl)) (hw _ (List.mem_of_getElem? (i := 134) rfl)) (hw _ (List.mem_of_getElem? (i := 135) rfl)) (hw _ (List.mem_of_getElem? (i := 92) rfl)) (hw _ (List.mem_of_getElem? (i := 136) rfl)) (by decide) e0 pE_a1 (argsL := [(.ref s1)]) (rest := []) (c_inf l Z a0 hw a1 s1 cs h0 pE_a1 pF_a1_coder pE_s1 pF_s1_coder pS_COMPACT_STRINGS hcs) 0 (by decide) (by decide) (by decide) (by decide) (by rw [hml]; rfl) (lenOf o_pd11 rfl) rfl (Nat.le_of_eq rfl) (hb hby d_jdk_68_method_73_code_2) (n := 5) rfl ?_
  intro v1 T1 L1 X1 q1
  obtain ⟨rfl, e1, rfl⟩ := q1
  have N2 := Fr.app N0 (Fr.nil n0)
  show Goes _ _ p e below s _ _ _ (T1.setTop (mkF m 5 #[.val (.ref a1), .val (.int (2 : Int32)), .val (.ref s1)] []))
  refine o_aloadN X1 hx (hb hby d_jdk_68_method_73_code_5) (v := (.ref s1)) rfl rfl (n := 6) rfl ?_
  refine o_aloadN X1 hx (hb hby d_jdk_68_method_73_code_6) (v := (.ref a1)) rfl rfl (n := 7) rfl ?_
  refine o_getfield X1 hx hZ hown (host := "") (Or.inl (hw _ (List.mem_of_getElem? (i := 96) rfl))) Via.refl e1 pF_a1_value (hb hby d_jdk_68_method_73_code_7) (n := 10) rfl ?_
  intro T3 X3 e3
  refine o_iloadN X3 hx (hb hby d_jdk_68_method_73_code_10) (v := (2 : Int32)) rfl (n := 11) rfl ?_
  refine o_aloadN X3 hx (hb hby d_jdk_68_method_73_code_11) (v := (.ref a1)) rfl rfl (n := 12) rfl ?_
  refine o_getfield X3 hx hZ hown (host := "") (Or.inl (hw _ (List.mem_of_getElem? (i := 98) rfl))) Via.refl e3 pF_a1_coder (hb hby d_jdk_68_method_73_code_12) (n := 15) rfl ?_
  intro T4 X4 e4
  refine o_callV X4 hx hZ hown (hw _ (List.mem_of_getElem? (i := 138) rfl)) (hw _ (List.mem_of_getElem? (i := 139) rfl)) (hw _ (List.mem_of_getElem? (i := 141) rfl)) (hw _ (List.mem_of_getElem? (i := 140) rfl)) (hw _ (List.mem_of_getElem? (i := 3) rfl)) (hw _ (List.mem_of_getElem? (i := 142) rfl)) (by decide) e4 pE_s1 (argsL := [(.ref r), (.int (2 : Int32)), (.int (0 : Int32))]) (rest := []) (c_gb12 l Z a0 hw s1 u ku r kr cs d0 d1 b0 h0 n0 Z0 pg_r pE_s1 pF_s1_coder pF_s1_value pV_u pV_r pne_u_r pne_s1_r pS_COMPACT_STRINGS hcs) 0 (by decide) (by decide) (by decide) (by decide) (by rw [hml]; rfl) (lenOf o_pd12 rfl) rfl (Nat.le_of_eq rfl) (hb hby d_jdk_68_method_73_code_15) (n := 18) rfl ?_
  intro v5 T5 L5 X5 q5
  obtain ⟨rfl, Nq5, K5, o5_0⟩ := q5
  have N6 := Fr.app N2 Nq5
  have f7 := pE_a1.keep K5
  have f8 := pF_a1_value.keep K5 (ninS pne_a1_r nin0)
  have f9 := pF_a1_coder.keep K5 (ninS pne_a1_r nin0)
  have f10 := pE_s1.keep K5
  have f11 := pF_s1_coder.keep K5 (ninS pne_s1_r nin0)
  have f12 := pF_s1_value.keep K5 (ninS pne_s1_r nin0)
  have f13 := pV_u.keep K5 (ninS pne_u_r nin0)
  have f15 := o_sta_keep pS_COMPACT_STRINGS K5 (allS (P := fun a => ∀ cl : Cell, h0[a]? = some cl → cl.vm.isStatics = false) (o_arv_ns pV_r) all0)
  have zz5 : n0 ≤ T5.heap.size := Nat.le_trans Z0 K5.1
  have K16 : Keep h0 T5.heap [r] := (Keep.refl h0 [r]).trans K5 (allS (P := fun x => x ∈ [r] ∨ h0.size ≤ x) (Or.inl (List.mem_of_getElem? (i := 0) rfl)) all0)
  show Goes _ _ p e below s _ _ _ (T5.setTop (mkF m 18 #[.val (.ref a1), .val (.int (2 : Int32)), .val (.ref s1)] []))
  exact o_return X5 hx hret hlk (hb hby d_jdk_68_method_73_code_18) (by decide) (by decide) (rfl : T5.heap = T5.heap) ⟨rfl, N6, K16, o5_0⟩
theorem o_ef36 (m : MethodId) (a1 : Addr) (s1 : Addr) : entryFrame m #[(.ref a1), (.ref s1)] 3 = mkF m 0 #[.val (.ref a1), .val (.ref s1), .unset] [] := by first | (simp [entryFrame, mkF, argsToLocals, Value.category]; done) | rfl
set_option maxRecDepth 65536 in
set_option maxHeartbeats 40000000 in
theorem c_ap12 (l : Launch) (Z : State) (a0 : Array Value) (hw : ∀ d ∈ tables_1, d.before a0 Z = true) (a1 : Addr) (s1 : Addr) (u : Addr) (ku : ClassId) (r : Addr) (kr : ClassId) (cs : Int32) (d0 : Int32) (d1 : Int32) (b0 : Int32) (h0 : Heap) (n0 : Nat) (Z0 : n0 ≤ h0.size) (pg_a1 : n0 ≤ a1) (pg_r : n0 ≤ r) (pE_a1 : Exa Z h0 a1 "java/lang/StringBuilder") (pF_a1_value : Fld Z h0 a1 "java/lang/AbstractStringBuilder" "value" "[B" (.ref r)) (pF_a1_coder : Fld Z h0 a1 "java/lang/AbstractStringBuilder" "coder" "B" (.int (0 : Int32))) (pF_a1_count : Fld Z h0 a1 "java/lang/AbstractStringBuilder" "count" "I" (.int (2 : Int32))) (pE_s1 : Exa Z h0 s1 "java/lang/String") (pF_s1_coder : Fld Z h0 s1 "java/lang/String" "coder" "B" (.int (0 : Int32))) (pF_s1_value : Fld Z h0 s1 "java/lang/String" "value" "[B" (.ref u)) (pV_u : Arv Z h0 u ku .byte (1 : Int32) [(.int b0)] (.int (0 : Int32))) (pV_r : Arv Z h0 r kr .byte (16 : Int32) [(.int d0), (.int d1), (.int (0 : Int32)), (.int (0 : Int32)), (.int (0 : Int32)), (.int (0 : Int32)), (.int (0 : Int32)), (.int (0 : Int32)), (.int (0 : Int32)), (.int (0 : Int32)), (.int (0 : Int32)), (.int (0 : Int32)), (.int (0 : Int32)), (.int (0 : Int32)), (.int (0 : Int32)), (.int (0 : Int32))] (.int (0 : Int32))) (pne_u_r : u ≠ r) (pne_s1_r : s1 ≠ r) (pne_a1_r : a1 ≠ r) (pne_a1_s1 : a1 ≠ s1) (pne_a1_u : a1 ≠ u) (pS_COMPACT_STRINGS : Sta Z h0 "java/lang/String" "COMPACT_STRINGS" "Z" (.int cs)) (hcs : ¬ cs = (0 : Int32)) :
    Does l Z (⟨"java/lang/AbstractStringBuilder", "append", "(Ljava/lang/String;)Ljava/lang/AbstractStringBuilder;"⟩ : MethodName) jdk_68_method_22_code 3 (some (.object "java/lang/AbstractStringBuilder")) [] ({ frames := 3, cells := 0, slots := 0, locals := 47 } : Room) #[(.ref a1), (.ref s1)] h0 (fun v h L => v = some (.ref a1) ∧ Fr n0 L ∧ Keep h0 h [a1, r] ∧ Exa Z h a1 "java/lang/StringBuilder" ∧ Fld Z h a1 "java/lang/AbstractStringBuilder" "value" "[B" (.ref r) ∧ Fld Z h a1 "java/lang/AbstractStringBuilder" "coder" "B" (.int (0 : Int32)) ∧ Fld Z h a1 "java/lang/AbstractStringBuilder" "count" "I" (.int (3 : Int32)) ∧ Arv Z h r kr .byte (16 : Int32) [(.int d0), (.int d1), (.int b0), (.int (0 : Int32)), (.int (0 : Int32)), (.int (0 : Int32)), (.int (0 : Int32)), (.int (0 : Int32)), (.int (0 : Int32)), (.int (0 : Int32)), (.int (0 : Int32)), (.int (0 : Int32)), (.int (0 : Int32)), (.int (0 : Int32)), (.int (0 : Int32)), (.int (0 : Int32))] (.int (0 : Int32))) := by
  refine Does.of (plainFor_of_name o_pn6) ?_
  intro p e s m below meth c T0 hx hby hml hown hnm hret hlk hZ X0 e0
  have hown : s.vm.findClass "java/lang/AbstractStringBuilder" = some m.cls := hown
  have hml : c.maxLocals = 3 := hml
  have hret : meth.sig.returnType = some (.object "java/lang/AbstractStringBuilder") := hret
  refine o_entry (o_ef36 m a1 s1) ?_
  have N0 := Fr.nil n0
  refine o_aloadN X0 hx (hb hby d_jdk_68_method_22_code_0) (v := (.ref s1)) rfl rfl (n := 1) rfl ?_
  refine o_ifnonnullY X0 hx (hb hby d_jdk_68_method_22_code_1) (by decide) (n := 9) (by decide) ?_
  refine o_aloadN X0 hx (hb hby d_jdk_68_method_22_code_9) (v := (.ref s1)) rfl rfl (n := 10) rfl ?_
  refine o_callV X0 hx hZ hown (hw _ (List.mem_of_getElem? (i := 110) rfl)) (hw _ (List.mem_of_getElem? (i := 111) rfl)) (hw _ (List.mem_of_getElem? (i := 113) rfl)) (hw _ (List.mem_of_getElem? (i := 112) rfl)) (hw _ (List.mem_of_getElem? (i := 3) rfl)) (hw _ (List.mem_of_getElem? (i := 114) rfl)) (by decide) e0 pE_s1 (argsL := []) (rest := []) (c_len1 l Z a0 hw s1 u ku ([(.int b0)]) cs h0 pE_s1 pF_s1_coder pF_s1_value pV_u pS_COMPACT_STRINGS hcs) 0 (by decide) (by decide) (by decide) (by decide) (by rw [hml]; rfl) (lenOf o_pd13 rfl) rfl (Nat.le_of_eq rfl) (hb hby d_jdk_68_method_22_code_10) (n := 13) rfl ?_
  intro v1 T1 L1 X1 q1
  obtain ⟨rfl, e1, rfl⟩ := q1
  have N2 := Fr.app N0 (Fr.nil n0)
  show Goes _ _ p e below s _ _ _ (T1.setTop (mkF m 13 #[.val (.ref a1), .val (.ref s1), .unset] [(.int (1 : Int32))]))
  refine o_istoreN X1 hx (hb hby d_jdk_68_method_22_code_13) (Ls' := #[.val (.ref a1), .val (.ref s1), .val (.int (1 : Int32))]) rfl (n := 14) rfl ?_
  refine o_aloadN X1 hx (hb hby d_jdk_68_method_22_code_14) (v := (.ref a1)) rfl rfl (n := 15) rfl ?_
  refine o_aloadN X1 hx (hb hby d_jdk_68_method_22_code_15) (v := (.ref a1)) rfl rfl (n := 16) rfl ?_
  refine o_getfield X1 hx hZ hown (host := "") (Or.inl (hw _ (List.mem_of_getElem? (i := 120) rfl))) Via.refl e1 pF_a1_count (hb hby d_jdk_68_method_22_code_16) (n := 19) rfl ?_
  intro T3 X3 e3
  refine o_iloadN X3 hx (hb hby d_jdk_68_method_22_code_19) (v := (1 : Int32)) rfl (n := 20) rfl ?_
  refine o_iadd X3 hx (hb hby d_jdk_68_method_22_code_20) (v := (3 : Int32)) (by decide) (n := 21) rfl ?_
  refine o_callP2 X3 hx hZ hown (hw _ (List.mem_of_getElem? (i := 122) rfl)) (hw _ (List.mem_of_getElem? (i := 123) rfl)) (hw _ (List.mem_of_getElem? (i := 124) rfl)) (hw _ (List.mem_of_getElem? (i := 125) rfl)) (hw _ (List.mem_of_getElem? (i := 92) rfl)) (hw _ (List.mem_of_getElem? (i := 126) rfl)) (by decide) e3 pE_a1 (argsL := [(.int (3 : Int32))]) (rest := []) (c_ens3 l Z a0 hw a1 r kr ([(.int d0), (.int d1), (.int (0 : Int32)), (.int (0 : Int32)), (.int (0 : Int32)), (.int (0 : Int32)), (.int (0 : Int32)), (.int (0 : Int32)), (.int (0 : Int32)), (.int (0 : Int32)), (.int (0 : Int32)), (.int (0 : Int32)), (.int (0 : Int32)), (.int (0 : Int32)), (.int (0 : Int32)), (.int (0 : Int32))]) h0 pE_a1 pF_a1_value pF_a1_coder pV_r) 0 (by decide) (by decide) (by decide) (by decide) (by rw [hml]; rfl) (lenOf o_pd9 rfl) rfl (Nat.le_of_eq rfl) (hb hby d_jdk_68_method_22_code_21) (n := 24) rfl ?_
  intro v4 T4 L4 X4 q4
  obtain ⟨rfl, e4, rfl⟩ := q4
  have N5 := Fr.app N2 (Fr.nil n0)
  show Goes _ _ p e below s _ _ _ (T4.setTop (mkF m 24 #[.val (.ref a1), .val (.ref s1), .val (.int (1 : Int32))] []))
  refine o_aloadN X4 hx (hb hby d_jdk_68_method_22_code_24) (v := (.ref a1)) rfl rfl (n := 25) rfl ?_
  refine o_aloadN X4 hx (hb hby d_jdk_68_method_22_code_25) (v := (.ref a1)) rfl rfl (n := 26) rfl ?_
  refine o_getfield X4 hx hZ hown (host := "") (Or.inl (hw _ (List.mem_of_getElem? (i := 120) rfl))) Via.refl e4 pF_a1_count (hb hby d_jdk_68_method_22_code_26) (n := 29) rfl ?_
  intro T6 X6 e6
  refine o_aloadN X6 hx (hb hby d_jdk_68_method_22_code_29) (v := (.ref s1)) rfl rfl (n := 30) rfl ?_
  refine o_callP2 X6 hx hZ hown (hw _ (List.mem_of_getElem? (i := 127) rfl)) (hw _ (List.mem_of_getElem? (i := 128) rfl)) (hw _ (List.mem_of_getElem? (i := 129) rfl)) (hw _ (List.mem_of_getElem? (i := 130) rfl)) (hw _ (List.mem_of_getElem? (i := 92) rfl)) (hw _ (List.mem_of_getElem? (i := 131) rfl)) (by decide) e6 pE_a1 (argsL := [(.int (2 : Int32)), (.ref s1)]) (rest := []) (c_pu12 l Z a0 hw a1 s1 u ku r kr cs d0 d1 b0 h0 n0 Z0 pg_r pE_a1 pF_a1_value pF_a1_coder pE_s1 pF_s1_coder pF_s1_value pV_u pV_r pne_u_r pne_s1_r pne_a1_r pne_a1_s1 pne_a1_u pS_COMPACT_STRINGS hcs) 0 (by decide) (by decide) (by decide) (by decide) (by rw [hml]; rfl) (lenOf o_pd14 rfl) rfl (Nat.le_of_eq rfl) (hb hby d_jdk_68_method_22_code_30) (n := 33) rfl ?_
  intro v7 T7 L7 X7 q7
  obtain ⟨rfl, Nq7, K7, o7_0⟩ := q7
  have N8 := Fr.app N5 Nq7
  have f9 := pE_a1.keep K7
  have f10 := pF_a1_value.keep K7 (ninS pne_a1_r nin0)
  have f11 := pF_a1_coder.keep K7 (ninS pne_a1_r nin0)
  have f12 := pF_a1_count.keep K7 (ninS pne_a1_r nin0)
  have f13 := pE_s1.keep K7
  have f14 := pF_s1_coder.keep K7 (ninS pne_s1_r nin0)
  have f15 := pF_s1_value.keep K7 (ninS pne_s1_r nin0)
  have f16 := pV_u.keep K7 (ninS pne_u_r nin0)
  have f18 := o_sta_keep pS_COMPACT_STRINGS K7 (allS (P := fun a => ∀ cl : Cell, h0[a]? = some cl → cl.vm.isStatics = false) (o_arv_ns pV_r) all0)
  have zz7 : n0 ≤ T7.heap.size := Nat.le_trans Z0 K7.1
  have K19 : Keep h0 T7.heap [a1, r] := (Keep.refl h0 [a1, r]).trans K7 (allS (P := fun x => x ∈ [a1, r] ∨ h0.size ≤ x) (Or.inl (List.mem_of_getElem? (i := 1) rfl)) all0)
  show Goes _ _ p e below s _ _ _ (T7.setTop (mkF m 33 #[.val (.ref a1), .val (.ref s1), .val (.int (1 : Int32))] []))
  refine o_aloadN X7 hx (hb hby d_jdk_68_method_22_code_33) (v := (.ref a1)) rfl rfl (n := 34) rfl ?_
  refine o_dup X7 hx (hb hby d_jdk_68_method_22_code_34) rfl (n := 35) rfl ?_
  refine o_getfield X7 hx hZ hown (host := "") (Or.inl (hw _ (List.mem_of_getElem? (i := 120) rfl))) Via.refl (rfl : T7.heap = T7.heap) f12 (hb hby d_jdk_68_method_22_code_35) (n := 38) rfl ?_
  intro T20 X20 e20
  refine o_iloadN X20 hx (hb hby d_jdk_68_method_22_code_38) (v := (1 : Int32)) rfl (n := 39) rfl ?_
  refine o_iadd X20 hx (hb hby d_jdk_68_method_22_code_39) (v := (3 : Int32)) (by decide) (n := 40) rfl ?_
  refine o_putfield X20 hx hZ hown (host := "") (Or.inl (hw _ (List.mem_of_getElem? (i := 120) rfl))) Via.refl e20 f12 f9 (Or.inl (hw _ (List.mem_of_getElem? (i := 121) rfl))) (hw _ (List.mem_of_getElem? (i := 83) rfl)) (ty := .int) (by decide) rfl rfl (hb hby d_jdk_68_method_22_code_40) (n := 43) rfl ?_
  intro T21 h21 X21 e21 W21 F21 E_21
  have f22 := f10.other W21 (Or.inr (slot_ne (Or.inl (hw _ (List.mem_of_getElem? (i := 97) rfl))) (Or.inl (hw _ (List.mem_of_getElem? (i := 121) rfl))) (by decide) (t := (.array .byte)) (t' := .int) (by decide) (by decide)))
  have f23 := f11.other W21 (Or.inr (slot_ne (Or.inl (hw _ (List.mem_of_getElem? (i := 99) rfl))) (Or.inl (hw _ (List.mem_of_getElem? (i := 121) rfl))) (by decide) (t := .byte) (t' := .int) (by decide) (by decide)))
  have f24 := f13.wr W21
  have f25 := f14.other W21 (Or.inl (Ne.symm pne_a1_s1))
  have f26 := f15.other W21 (Or.inl (Ne.symm pne_a1_s1))
  have f27 := f16.other W21 (Ne.symm pne_a1_u)
  have f28 := f18.wr W21
  have f29 := o7_0.other W21 (Ne.symm pne_a1_r)
  have zz21 : n0 ≤ h21.size := Nat.le_trans zz7 (Nat.le_of_eq W21.size.symm)
  have N30 := Fr.snoc X21 N8 pg_a1
  have K31 : Keep h0 h21 [a1, r] := K19.wr W21 (Or.inl (List.mem_of_getElem? (i := 0) rfl))
  refine o_aloadN X21 hx (hb hby d_jdk_68_method_22_code_43) (v := (.ref a1)) rfl rfl (n := 44) rfl ?_
  exact o_areturn X21 hx hret hlk rfl rfl (hb hby d_jdk_68_method_22_code_44) (by decide) (by decide) e21 ⟨rfl, N30, K31, E_21, f22, f23, F21, f29⟩
theorem o_ef37 (m : MethodId) (a1 : Addr) (s1 : Addr) : entryFrame m #[(.ref a1), (.ref s1)] 2 = mkF m 0 #[.val (.ref a1), .val (.ref s1)] [] := by first | (simp [entryFrame, mkF, argsToLocals, Value.category]; done) | rfl
set_option maxRecDepth 65536 in
set_option maxHeartbeats 40000000 in
theorem c_sp12 (l : Launch) (Z : State) (a0 : Array Value) (hw : ∀ d ∈ tables_1, d.before a0 Z = true) (a1 : Addr) (s1 : Addr) (u : Addr) (ku : ClassId) (r : Addr) (kr : ClassId) (cs : Int32) (d0 : Int32) (d1 : Int32) (b0 : Int32) (h0 : Heap) (n0 : Nat) (Z0 : n0 ≤ h0.size) (pg_a1 : n0 ≤ a1) (pg_r : n0 ≤ r) (pE_a1 : Exa Z h0 a1 "java/lang/StringBuilder") (pF_a1_value : Fld Z h0 a1 "java/lang/AbstractStringBuilder" "value" "[B" (.ref r)) (pF_a1_coder : Fld Z h0 a1 "java/lang/AbstractStringBuilder" "coder" "B" (.int (0 : Int32))) (pF_a1_count : Fld Z h0 a1 "java/lang/AbstractStringBuilder" "count" "I" (.int (2 : Int32))) (pE_s1 : Exa Z h0 s1 "java/lang/String") (pF_s1_coder : Fld Z h0 s1 "java/lang/String" "coder" "B" (.int (0 : Int32))) (pF_s1_value : Fld Z h0 s1 "java/lang/String" "value" "[B" (.ref u)) (pV_u : Arv Z h0 u ku .byte (1 : Int32) [(.int b0)] (.int (0 : Int32))) (pV_r : Arv Z h0 r kr .byte (16 : Int32) [(.int d0), (.int d1), (.int (0 : Int32)), (.int (0 : Int32)), (.int (0 : Int32)), (.int (0 : Int32)), (.int (0 : Int32)), (.int (0 : Int32)), (.int (0 : Int32)), (.int (0 : Int32)), (.int (0 : Int32)), (.int (0 : Int32)), (.int (0 : Int32)), (.int (0 : Int32)), (.int (0 : Int32)), (.int (0 : Int32))] (.int (0 : Int32))) (pne_u_r : u ≠ r) (pne_s1_r : s1 ≠ r) (pne_a1_r : a1 ≠ r) (pne_a1_s1 : a1 ≠ s1) (pne_a1_u : a1 ≠ u) (pS_COMPACT_STRINGS : Sta Z h0 "java/lang/String" "COMPACT_STRINGS" "Z" (.int cs)) (hcs : ¬ cs = (0 : Int32)) :
    Does l Z (⟨"java/lang/StringBuilder", "append", "(Ljava/lang/String;)Ljava/lang/StringBuilder;"⟩ : MethodName) jdk_67_method_7_code 2 (some (.object "java/lang/StringBuilder")) [] ({ frames := 4, cells := 0, slots := 0, locals := 61 } : Room) #[(.ref a1), (.ref s1)] h0 (fun v h L => v = some (.ref a1) ∧ Fr n0 L ∧ Keep h0 h [a1, r] ∧ Exa Z h a1 "java/lang/StringBuilder" ∧ Fld Z h a1 "java/lang/AbstractStringBuilder" "value" "[B" (.ref r) ∧ Fld Z h a1 "java/lang/AbstractStringBuilder" "coder" "B" (.int (0 : Int32)) ∧ Fld Z h a1 "java/lang/AbstractStringBuilder" "count" "I" (.int (3 : Int32)) ∧ Arv Z h r kr .byte (16 : Int32) [(.int d0), (.int d1), (.int b0), (.int (0 : Int32)), (.int (0 : Int32)), (.int (0 : Int32)), (.int (0 : Int32)), (.int (0 : Int32)), (.int (0 : Int32)), (.int (0 : Int32)), (.int (0 : Int32)), (.int (0 : Int32)), (.int (0 : Int32)), (.int (0 : Int32)), (.int (0 : Int32)), (.int (0 : Int32))] (.int (0 : Int32))) := by
  refine Does.of (plainFor_of_name o_pn7) ?_
  intro p e s m below meth c T0 hx hby hml hown hnm hret hlk hZ X0 e0
  have hown : s.vm.findClass "java/lang/StringBuilder" = some m.cls := hown
  have hml : c.maxLocals = 2 := hml
  have hret : meth.sig.returnType = some (.object "java/lang/StringBuilder") := hret
  refine o_entry (o_ef37 m a1 s1) ?_
  have N0 := Fr.nil n0
  refine o_aloadN X0 hx (hb hby d_jdk_67_method_7_code_0) (v := (.ref a1)) rfl rfl (n := 1) rfl ?_
  refine o_aloadN X0 hx (hb hby d_jdk_67_method_7_code_1) (v := (.ref s1)) rfl rfl (n := 2) rfl ?_
  refine o_super X0 hx hZ hown (hw _ (List.mem_of_getElem? (i := 105) rfl)) (o_same (y := ({ cls := "java/lang/AbstractStringBuilder", name := "getValue", desc := "()[B" } : Jvm.MethodName)) (z := ({ cls := "java/lang/AbstractStringBuilder", name := "getValue", desc := "()[B" } : Jvm.MethodName)) (w := ({ cls := "java/lang/AbstractStringBuilder", name := "append", desc := "(Ljava/lang/String;)Ljava/lang/AbstractStringBuilder;" } : Jvm.MethodName)) (hw _ (List.mem_of_getElem? (i := 165) rfl)) rfl rfl (by decide) (hw _ (List.mem_of_getElem? (i := 106) rfl))) (hw _ (List.mem_of_getElem? (i := 106) rfl)) (hw _ (List.mem_of_getElem? (i := 107) rfl)) (by decide) (hw _ (List.mem_of_getElem? (i := 92) rfl)) (hw _ (List.mem_of_getElem? (i := 109) rfl)) e0 pE_a1 (argsL := [(.ref s1)]) (rest := []) (c_ap12 l Z a0 hw a1 s1 u ku r kr cs d0 d1 b0 h0 n0 Z0 pg_a1 pg_r pE_a1 pF_a1_value pF_a1_coder pF_a1_count pE_s1 pF_s1_coder pF_s1_value pV_u pV_r pne_u_r pne_s1_r pne_a1_r pne_a1_s1 pne_a1_u pS_COMPACT_STRINGS hcs) 0 (by decide) (by decide) (by decide) (by decide) (by rw [hml]; rfl) (lenOf o_pd15 rfl) rfl (Nat.le_of_eq rfl) (hb hby d_jdk_67_method_7_code_2) (n := 5) rfl ?_
  intro v1 T1 L1 X1 q1
  obtain ⟨rfl, Nq1, K1, o1_0, o1_1, o1_2, o1_3, o1_4⟩ := q1
  have N2 := Fr.app N0 Nq1
  have f3 := pE_a1.keep K1
  have f7 := pE_s1.keep K1
  have f8 := pF_s1_coder.keep K1 (ninS (Ne.symm pne_a1_s1) (ninS pne_s1_r nin0))
  have f9 := pF_s1_value.keep K1 (ninS (Ne.symm pne_a1_s1) (ninS pne_s1_r nin0))
  have f10 := pV_u.keep K1 (ninS (Ne.symm pne_a1_u) (ninS pne_u_r nin0))
  have f12 := o_sta_keep pS_COMPACT_STRINGS K1 (allS (P := fun a => ∀ cl : Cell, h0[a]? = some cl → cl.vm.isStatics = false) (o_exa_ns pE_a1) (allS (P := fun a => ∀ cl : Cell, h0[a]? = some cl → cl.vm.isStatics = false) (o_arv_ns pV_r) all0))
  have zz1 : n0 ≤ T1.heap.size := Nat.le_trans Z0 K1.1
  have K13 : Keep h0 T1.heap [a1, r] := (Keep.refl h0 [a1, r]).trans K1 (allS (P := fun x => x ∈ [a1, r] ∨ h0.size ≤ x) (Or.inl (List.mem_of_getElem? (i := 0) rfl)) (allS (P := fun x => x ∈ [a1, r] ∨ h0.size ≤ x) (Or.inl (List.mem_of_getElem? (i := 1) rfl)) all0))
  show Goes _ _ p e below s _ _ _ (T1.setTop (mkF m 5 #[.val (.ref a1), .val (.ref s1)] [(.ref a1)]))
  refine o_pop X1 hx (hb hby d_jdk_67_method_7_code_5) rfl (n := 6) rfl ?_
  refine o_aloadN X1 hx (hb hby d_jdk_67_method_7_code_6) (v := (.ref a1)) rfl rfl (n := 7) rfl ?_
  exact o_areturn X1 hx hret hlk rfl rfl (hb hby d_jdk_67_method_7_code_7) (by decide) (by decide) (rfl : T1.heap = T1.heap) ⟨rfl, N2, K13, o1_0, o1_1, o1_2, o1_3, o1_4⟩
theorem o_ef38 (m : MethodId) (s1 : Addr) (r : Addr) : entryFrame m #[(.ref s1), (.ref r), (.int (3 : Int32)), (.int (0 : Int32))] 4 = mkF m 0 #[.val (.ref s1), .val (.ref r), .val (.int (3 : Int32)), .val (.int (0 : Int32))] [] := by first | (simp [entryFrame, mkF, argsToLocals, Value.category]; done) | rfl
set_option maxRecDepth 65536 in
set_option maxHeartbeats 40000000 in
theorem c_gb03 (l : Launch) (Z : State) (a0 : Array Value) (hw : ∀ d ∈ tables_1, d.before a0 Z = true) (s1 : Addr) (u : Addr) (ku : ClassId) (r : Addr) (kr : ClassId) (cs : Int32) (d0 : Int32) (d1 : Int32) (d2 : Int32) (h0 : Heap) (n0 : Nat) (Z0 : n0 ≤ h0.size) (pg_r : n0 ≤ r) (pE_s1 : Exa Z h0 s1 "java/lang/String") (pF_s1_coder : Fld Z h0 s1 "java/lang/String" "coder" "B" (.int (0 : Int32))) (pF_s1_value : Fld Z h0 s1 "java/lang/String" "value" "[B" (.ref u)) (pV_u : Arv Z h0 u ku .byte (0 : Int32) [] (.int (0 : Int32))) (pV_r : Arv Z h0 r kr .byte (16 : Int32) [(.int d0), (.int d1), (.int d2), (.int (0 : Int32)), (.int (0 : Int32)), (.int (0 : Int32)), (.int (0 : Int32)), (.int (0 : Int32)), (.int (0 : Int32)), (.int (0 : Int32)), (.int (0 : Int32)), (.int (0 : Int32)), (.int (0 : Int32)), (.int (0 : Int32)), (.int (0 : Int32)), (.int (0 : Int32))] (.int (0 : Int32))) (pne_u_r : u ≠ r) (pne_s1_r : s1 ≠ r) (pS_COMPACT_STRINGS : Sta Z h0 "java/lang/String" "COMPACT_STRINGS" "Z" (.int cs)) (hcs : ¬ cs = (0 : Int32)) :
    Does l Z (⟨"java/lang/String", "getBytes", "([BIB)V"⟩ : MethodName) jdk_42_method_147_code 4 none [] ({ frames := 1, cells := 0, slots := 0, locals := 18 } : Room) #[(.ref s1), (.ref r), (.int (3 : Int32)), (.int (0 : Int32))] h0 (fun v h L => v = none ∧ Fr n0 L ∧ Keep h0 h [r] ∧ Arv Z h r kr .byte (16 : Int32) [(.int d0), (.int d1), (.int d2), (.int (0 : Int32)), (.int (0 : Int32)), (.int (0 : Int32)), (.int (0 : Int32)), (.int (0 : Int32)), (.int (0 : Int32)), (.int (0 : Int32)), (.int (0 : Int32)), (.int (0 : Int32)), (.int (0 : Int32)), (.int (0 : Int32)), (.int (0 : Int32)), (.int (0 : Int32))] (.int (0 : Int32))) := by
  refine Does.of (plainFor_of_name o_pn1) ?_
  intro p e s m below meth c T0 hx hby hml hown hnm hret hlk hZ X0 e0
  have hown : s.vm.findClass "java/lang/String" = some m.cls := hown
  have hml : c.maxLocals = 4 := hml
  have hret : meth.sig.returnType = none := hret
  refine o_entry (o_ef38 m s1 r) ?_
  have N0 := Fr.nil n0
  refine o_aloadN X0 hx (hb hby d_jdk_42_method_147_code_0) (v := (.ref s1)) rfl rfl (n := 1) rfl ?_
  refine o_callV X0 hx hZ hown (hw _ (List.mem_of_getElem? (i := 115) rfl)) (hw _ (List.mem_of_getElem? (i := 116) rfl)) (hw _ (List.mem_of_getElem? (i := 118) rfl)) (hw _ (List.mem_of_getElem? (i := 117) rfl)) (hw _ (List.mem_of_getElem? (i := 3) rfl)) (hw _ (List.mem_of_getElem? (i := 119) rfl)) (by decide) e0 pE_s1 (argsL := []) (rest := []) (c_cod l Z a0 hw s1 cs h0 pF_s1_coder pS_COMPACT_STRINGS hcs) 0 (by decide) (by decide) (by decide) (by decide) (by rw [hml]; rfl) (lenOf o_pd10 rfl) rfl (Nat.le_of_eq rfl) (hb hby d_jdk_42_method_147_code_1) (n := 4) rfl ?_
  intro v1 T1 L1 X1 q1
  obtain ⟨rfl, e1, rfl⟩ := q1
  have N2 := Fr.app N0 (Fr.nil n0)
  show Goes _ _ p e below s _ _ _ (T1.setTop (mkF m 4 #[.val (.ref s1), .val (.ref r), .val (.int (3 : Int32)), .val (.int (0 : Int32))] [(.int (0 : Int32))]))
  refine o_iloadN X1 hx (hb hby d_jdk_42_method_147_code_4) (v := (0 : Int32)) rfl (n := 5) rfl ?_
  refine o_icmpN X1 hx (hb hby d_jdk_42_method_147_code_5) (XT.ii_ne_f (by decide)) (n := 8) rfl ?_
  refine o_aloadN X1 hx (hb hby d_jdk_42_method_147_code_8) (v := (.ref s1)) rfl rfl (n := 9) rfl ?_
  refine o_getfield X1 hx hZ hown (host := "") (Or.inl (hw _ (List.mem_of_getElem? (i := 28) rfl))) Via.refl e1 pF_s1_value (hb hby d_jdk_42_method_147_code_9) (n := 12) rfl ?_
  intro T3 X3 e3
  refine o_iconst X3 hx (hb hby d_jdk_42_method_147_code_12) (v := (0 : Int32)) rfl (n := 13) rfl ?_
  refine o_aloadN X3 hx (hb hby d_jdk_42_method_147_code_13) (v := (.ref r)) rfl rfl (n := 14) rfl ?_
  refine o_iloadN X3 hx (hb hby d_jdk_42_method_147_code_14) (v := (3 : Int32)) rfl (n := 15) rfl ?_
  refine o_iloadN X3 hx (hb hby d_jdk_42_method_147_code_15) (v := (0 : Int32)) rfl (n := 16) rfl ?_
  refine o_ishl X3 hx (hb hby d_jdk_42_method_147_code_16) (v := (3 : Int32)) (by decide) (n := 17) rfl ?_
  refine o_aloadN X3 hx (hb hby d_jdk_42_method_147_code_17) (v := (.ref s1)) rfl rfl (n := 18) rfl ?_
  refine o_getfield X3 hx hZ hown (host := "") (Or.inl (hw _ (List.mem_of_getElem? (i := 28) rfl))) Via.refl e3 pF_s1_value (hb hby d_jdk_42_method_147_code_18) (n := 21) rfl ?_
  intro T4 X4 e4
  refine o_arraylength X4 hx hZ e4 pV_u (hb hby d_jdk_42_method_147_code_21) (n := 22) rfl ?_
  refine o_acopy X4 hx hZ hown (hw _ (List.mem_of_getElem? (i := 143) rfl)) (hw _ (List.mem_of_getElem? (i := 146) rfl)) (hw _ (List.mem_of_getElem? (i := 144) rfl)) (hw _ (List.mem_of_getElem? (i := 145) rfl)) e4 pV_u pV_r (Or.inl ⟨rfl, rfl⟩) ⟨by decide, by decide, by decide, by decide, by decide, rfl, (show (3 : Int32).toNatClampNeg + (0 : Int32).toNatClampNeg ≤ 16 by decide)⟩ N2 pg_r (by rw [hml]; rfl) (hb hby d_jdk_42_method_147_code_22) (by decide) 0 (Nat.le_of_eq rfl) (by decide) (n := 25) rfl ?_
  intro T5 h5 L5 X5 e5 N5 K5 V5
  have f6 := pE_s1.keep K5
  have f7 := pF_s1_coder.keep K5 (ninS pne_s1_r nin0)
  have f8 := pF_s1_value.keep K5 (ninS pne_s1_r nin0)
  have f9 := pV_u.keep K5 (ninS pne_u_r nin0)
  have f10 := o_sta_keep pS_COMPACT_STRINGS K5 (allS (P := fun a => ∀ cl : Cell, h0[a]? = some cl → cl.vm.isStatics = false) (o_arv_ns pV_r) all0)
  have f11 : Arv Z h5 r kr .byte (16 : Int32) [(.int d0), (.int d1), (.int d2), (.int (0 : Int32)), (.int (0 : Int32)), (.int (0 : Int32)), (.int (0 : Int32)), (.int (0 : Int32)), (.int (0 : Int32)), (.int (0 : Int32)), (.int (0 : Int32)), (.int (0 : Int32)), (.int (0 : Int32)), (.int (0 : Int32)), (.int (0 : Int32)), (.int (0 : Int32))] (.int (0 : Int32)) := V5.pad (fun i => rfl)
  have zz5 : n0 ≤ h5.size := Nat.le_trans Z0 K5.1
  have K12 : Keep h0 h5 [r] := (Keep.refl h0 [r]).trans K5 (allS (P := fun x => x ∈ [r] ∨ h0.size ≤ x) (Or.inl (List.mem_of_getElem? (i := 0) rfl)) all0)
  show Goes _ _ p e below s _ _ _ (T5.setTop (mkF m 25 #[.val (.ref s1), .val (.ref r), .val (.int (3 : Int32)), .val (.int (0 : Int32))] []))
  refine o_goto X5 hx (hb hby d_jdk_42_method_147_code_25) (by decide) (n := 43) (by decide) ?_
  exact o_return X5 hx hret hlk (hb hby d_jdk_42_method_147_code_43) (by decide) (by decide) e5 ⟨rfl, N5, K12, f11⟩
theorem o_ef39 (m : MethodId) (a1 : Addr) (s1 : Addr) : entryFrame m #[(.ref a1), (.int (3 : Int32)), (.ref s1)] 3 = mkF m 0 #[.val (.ref a1), .val (.int (3 : Int32)), .val (.ref s1)] [] := by first | (simp [entryFrame, mkF, argsToLocals, Value.category]; done) | rfl
set_option maxRecDepth 65536 in
set_option maxHeartbeats 40000000 in
theorem c_pu03 (l : Launch) (Z : State) (a0 : Array Value) (hw : ∀ d ∈ tables_1, d.before a0 Z = true) (a1 : Addr) (s1 : Addr) (u : Addr) (ku : ClassId) (r : Addr) (kr : ClassId) (cs : Int32) (d0 : Int32) (d1 : Int32) (d2 : Int32) (h0 : Heap) (n0 : Nat) (Z0 : n0 ≤ h0.size) (pg_r : n0 ≤ r) (pE_a1 : Exa Z h0 a1 "java/lang/StringBuilder") (pF_a1_value : Fld Z h0 a1 "java/lang/AbstractStringBuilder" "value" "[B" (.ref r)) (pF_a1_coder : Fld Z h0 a1 "java/lang/AbstractStringBuilder" "coder" "B" (.int (0 : Int32))) (pE_s1 : Exa Z h0 s1 "java/lang/String") (pF_s1_coder : Fld Z h0 s1 "java/lang/String" "coder" "B" (.int (0 : Int32))) (pF_s1_value : Fld Z h0 s1 "java/lang/String" "value" "[B" (.ref u)) (pV_u : Arv Z h0 u ku .byte (0 : Int32) [] (.int (0 : Int32))) (pV_r : Arv Z h0 r kr .byte (16 : Int32) [(.int d0), (.int d1), (.int d2), (.int (0 : Int32)), (.int (0 : Int32)), (.int (0 : Int32)), (.int (0 : Int32)), (.int (0 : Int32)), (.int (0 : Int32)), (.int (0 : Int32)), (.int (0 : Int32)), (.int (0 : Int32)), (.int (0 : Int32)), (.int (0 : Int32)), (.int (0 : Int32)), (.int (0 : Int32))] (.int (0 : Int32))) (pne_u_r : u ≠ r) (pne_s1_r : s1 ≠ r) (pne_a1_r : a1 ≠ r) (pne_a1_s1 : a1 ≠ s1) (pne_a1_u : a1 ≠ u) (pS_COMPACT_STRINGS : Sta Z h0 "java/lang/String" "COMPACT_STRINGS" "Z" (.int cs)) (hcs : ¬ cs = (0 : Int32)) :
    Does l Z (⟨"java/lang/AbstractStringBuilder", "putStringAt", "(ILjava/lang/String;)V"⟩ : MethodName) jdk_68_method_73_code 3 none [] ({ frames := 2, cells := 0, slots := 0, locals := 33 } : Room) #[(.ref a1), (.int (3 : Int32)), (.ref s1)] h0 (fun v h L => v = none ∧ Fr n0 L ∧ Keep h0 h [r] ∧ Arv Z h r kr .byte (16 : Int32) [(.int d0), (.int d1), (.int d2), (.int (0 : Int32)), (.int (0 : Int32)), (.int (0 : Int32)), (.int (0 : Int32)), (.int (0 : Int32)), (.int (0 : Int32)), (.int (0 : Int32)), (.int (0 : Int32)), (.int (0 : Int32)), (.int (0 : Int32)), (.int (0 : Int32)), (.int (0 : Int32)), (.int (0 : Int32))] (.int (0 : Int32))) := by
  refine Does.of (plainFor_of_name o_pn6) ?_
  intro p e s m below meth c T0 hx hby hml hown hnm hret hlk hZ X0 e0
  have hown : s.vm.findClass "java/lang/AbstractStringBuilder" = some m.cls := hown
  have hml : c.maxLocals = 3 := hml
  have hret : meth.sig.returnType = none := hret
  refine o_entry (o_ef39 m a1 s1) ?_
  have N0 := Fr.nil n0
  refine o_aloadN X0 hx (hb hby d_jdk_68_method_73_code_0) (v := (.ref a1)) rfl rfl (n := 1) rfl ?_
  refine o_aloadN X0 hx (hb hby d_jdk_68_method_73_code_1) (v := (.ref s1)) rfl rfl (n := 2) rfl ?_
  refine o_callP2 X0 hx hZ hown (hw _ (List.mem_of_getElem? (i := 132) rfl)) (hw _ (List.mem_of_getElem? (i := 133) rfl)) (hw _ (List.mem_of_getElem? (i := 134) rfl)) (hw _ (List.mem_of_getElem? (i := 135) rfl)) (hw _ (List.mem_of_getElem? (i := 92) rfl)) (hw _ (List.mem_of_getElem? (i := 136) rfl)) (by decide) e0 pE_a1 (argsL := [(.ref s1)]) (rest := []) (c_inf l Z a0 hw a1 s1 cs h0 pE_a1 pF_a1_coder pE_s1 pF_s1_coder pS_COMPACT_STRINGS hcs) 0 (by decide) (by decide) (by decide) (by decide) (by rw [hml]; rfl) (lenOf o_pd11 rfl) rfl (Nat.le_of_eq rfl) (hb hby d_jdk_68_method_73_code_2) (n := 5) rfl ?_
  intro v1 T1 L1 X1 q1
  obtain ⟨rfl, e1, rfl⟩ := q1
  have N2 := Fr.app N0 (Fr.nil n0)
  show Goes _ _ p e below s _ _ _ (T1.setTop (mkF m 5 #[.val (.ref a1), .val (.int (3 : Int32)), .val (.ref s1)] []))
  refine o_aloadN X1 hx (hb hby d_jdk_68_method_73_code_5) (v := (.ref s1)) rfl rfl (n := 6) rfl ?_
  refine o_aloadN X1 hx (hb hby d_jdk_68_method_73_code_6) (v := (.ref a1)) rfl rfl (n := 7) rfl ?_
  refine o_getfield X1 hx hZ hown (host := "") (Or.inl (hw _ (List.mem_of_getElem? (i := 96) rfl))) Via.refl e1 pF_a1_value (hb hby d_jdk_68_method_73_code_7) (n := 10) rfl ?_
  intro T3 X3 e3
  refine o_iloadN X3 hx (hb hby d_jdk_68_method_73_code_10) (v := (3 : Int32)) rfl (n := 11) rfl ?_
  refine o_aloadN X3 hx (hb hby d_jdk_68_method_73_code_11) (v := (.ref a1)) rfl rfl (n := 12) rfl ?_
  refine o_getfield X3 hx hZ hown (host := "") (Or.inl (hw _ (List.mem_of_getElem? (i := 98) rfl))) Via.refl e3 pF_a1_coder (hb hby d_jdk_68_method_73_code_12) (n := 15) rfl ?_
  intro T4 X4 e4
  refine o_callV X4 hx hZ hown (hw _ (List.mem_of_getElem? (i := 138) rfl)) (hw _ (List.mem_of_getElem? (i := 139) rfl)) (hw _ (List.mem_of_getElem? (i := 141) rfl)) (hw _ (List.mem_of_getElem? (i := 140) rfl)) (hw _ (List.mem_of_getElem? (i := 3) rfl)) (hw _ (List.mem_of_getElem? (i := 142) rfl)) (by decide) e4 pE_s1 (argsL := [(.ref r), (.int (3 : Int32)), (.int (0 : Int32))]) (rest := []) (c_gb03 l Z a0 hw s1 u ku r kr cs d0 d1 d2 h0 n0 Z0 pg_r pE_s1 pF_s1_coder pF_s1_value pV_u pV_r pne_u_r pne_s1_r pS_COMPACT_STRINGS hcs) 0 (by decide) (by decide) (by decide) (by decide) (by rw [hml]; rfl) (lenOf o_pd12 rfl) rfl (Nat.le_of_eq rfl) (hb hby d_jdk_68_method_73_code_15) (n := 18) rfl ?_
  intro v5 T5 L5 X5 q5
  obtain ⟨rfl, Nq5, K5, o5_0⟩ := q5
  have N6 := Fr.app N2 Nq5
  have f7 := pE_a1.keep K5
  have f8 := pF_a1_value.keep K5 (ninS pne_a1_r nin0)
  have f9 := pF_a1_coder.keep K5 (ninS pne_a1_r nin0)
  have f10 := pE_s1.keep K5
  have f11 := pF_s1_coder.keep K5 (ninS pne_s1_r nin0)
  have f12 := pF_s1_value.keep K5 (ninS pne_s1_r nin0)
  have f13 := pV_u.keep K5 (ninS pne_u_r nin0)
  have f15 := o_sta_keep pS_COMPACT_STRINGS K5 (allS (P := fun a => ∀ cl : Cell, h0[a]? = some cl → cl.vm.isStatics = false) (o_arv_ns pV_r) all0)
  have zz5 : n0 ≤ T5.heap.size := Nat.le_trans Z0 K5.1
  have K16 : Keep h0 T5.heap [r] := (Keep.refl h0 [r]).trans K5 (allS (P := fun x => x ∈ [r] ∨ h0.size ≤ x) (Or.inl (List.mem_of_getElem? (i := 0) rfl)) all0)
  show Goes _ _ p e below s _ _ _ (T5.setTop (mkF m 18 #[.val (.ref a1), .val (.int (3 : Int32)), .val (.ref s1)] []))
  exact o_return X5 hx hret hlk (hb hby d_jdk_68_method_73_code_18) (by decide) (by decide) (rfl : T5.heap = T5.heap) ⟨rfl, N6, K16, o5_0⟩
theorem o_ef40 (m : MethodId) (a1 : Addr) (s1 : Addr) : entryFrame m #[(.ref a1), (.ref s1)] 3 = mkF m 0 #[.val (.ref a1), .val (.ref s1), .unset] [] := by first | (simp [entryFrame, mkF, argsToLocals, Value.category]; done) | rfl
set_option maxRecDepth 65536 in
set_option maxHeartbeats 40000000 in
theorem c_ap03 (l : Launch) (Z : State) (a0 : Array Value) (hw : ∀ d ∈ tables_1, d.before a0 Z = true) (a1 : Addr) (s1 : Addr) (u : Addr) (ku : ClassId) (r : Addr) (kr : ClassId) (cs : Int32) (d0 : Int32) (d1 : Int32) (d2 : Int32) (h0 : Heap) (n0 : Nat) (Z0 : n0 ≤ h0.size) (pg_a1 : n0 ≤ a1) (pg_r : n0 ≤ r) (pE_a1 : Exa Z h0 a1 "java/lang/StringBuilder") (pF_a1_value : Fld Z h0 a1 "java/lang/AbstractStringBuilder" "value" "[B" (.ref r)) (pF_a1_coder : Fld Z h0 a1 "java/lang/AbstractStringBuilder" "coder" "B" (.int (0 : Int32))) (pF_a1_count : Fld Z h0 a1 "java/lang/AbstractStringBuilder" "count" "I" (.int (3 : Int32))) (pE_s1 : Exa Z h0 s1 "java/lang/String") (pF_s1_coder : Fld Z h0 s1 "java/lang/String" "coder" "B" (.int (0 : Int32))) (pF_s1_value : Fld Z h0 s1 "java/lang/String" "value" "[B" (.ref u)) (pV_u : Arv Z h0 u ku .byte (0 : Int32) [] (.int (0 : Int32))) (pV_r : Arv Z h0 r kr .byte (16 : Int32) [(.int d0), (.int d1), (.int d2), (.int (0 : Int32)), (.int (0 : Int32)), (.int (0 : Int32)), (.int (0 : Int32)), (.int (0 : Int32)), (.int (0 : Int32)), (.int (0 : Int32)), (.int (0 : Int32)), (.int (0 : Int32)), (.int (0 : Int32)), (.int (0 : Int32)), (.int (0 : Int32)), (.int (0 : Int32))] (.int (0 : Int32))) (pne_u_r : u ≠ r) (pne_s1_r : s1 ≠ r) (pne_a1_r : a1 ≠ r) (pne_a1_s1 : a1 ≠ s1) (pne_a1_u : a1 ≠ u) (pS_COMPACT_STRINGS : Sta Z h0 "java/lang/String" "COMPACT_STRINGS" "Z" (.int cs)) (hcs : ¬ cs = (0 : Int32)) :
    Does l Z (⟨"java/lang/AbstractStringBuilder", "append", "(Ljava/lang/String;)Ljava/lang/AbstractStringBuilder;"⟩ : MethodName) jdk_68_method_22_code 3 (some (.object "java/lang/AbstractStringBuilder")) [] ({ frames := 3, cells := 0, slots := 0, locals := 47 } : Room) #[(.ref a1), (.ref s1)] h0 (fun v h L => v = some (.ref a1) ∧ Fr n0 L ∧ Keep h0 h [a1, r] ∧ Exa Z h a1 "java/lang/StringBuilder" ∧ Fld Z h a1 "java/lang/AbstractStringBuilder" "value" "[B" (.ref r) ∧ Fld Z h a1 "java/lang/AbstractStringBuilder" "coder" "B" (.int (0 : Int32)) ∧ Fld Z h a1 "java/lang/AbstractStringBuilder" "count" "I" (.int (3 : Int32)) ∧ Arv Z h r kr .byte (16 : Int32) [(.int d0), (.int d1), (.int d2), (.int (0 : Int32)), (.int (0 : Int32)), (.int (0 : Int32)), (.int (0 : Int32)), (.int (0 : Int32)), (.int (0 : Int32)), (.int (0 : Int32)), (.int (0 : Int32)), (.int (0 : Int32)), (.int (0 : Int32)), (.int (0 : Int32)), (.int (0 : Int32)), (.int (0 : Int32))] (.int (0 : Int32))) := by
  refine Does.of (plainFor_of_name o_pn6) ?_
  intro p e s m below meth c T0 hx hby hml hown hnm hret hlk hZ X0 e0
  have hown : s.vm.findClass "java/lang/AbstractStringBuilder" = some m.cls := hown
  have hml : c.maxLocals = 3 := hml
  have hret : meth.sig.returnType = some (.object "java/lang/AbstractStringBuilder") := hret
  refine o_entry (o_ef40 m a1 s1) ?_
  have N0 := Fr.nil n0
  refine o_aloadN X0 hx (hb hby d_jdk_68_method_22_code_0) (v := (.ref s1)) rfl rfl (n := 1) rfl ?_
  refine o_ifnonnullY X0 hx (hb hby d_jdk_68_method_22_code_1) (by decide) (n := 9) (by decide) ?_
  refine o_aloadN X0 hx (hb hby d_jdk_68_method_22_code_9) (v := (.ref s1)) rfl rfl (n := 10) rfl ?_
  refine o_callV X0 hx hZ hown (hw _ (List.mem_of_getElem? (i := 110) rfl)) (hw _ (List.mem_of_getElem? (i := 111) rfl)) (hw _ (List.mem_of_getElem? (i := 113) rfl)) (hw _ (List.mem_of_getElem? (i := 112) rfl)) (hw _ (List.mem_of_getElem? (i := 3) rfl)) (hw _ (List.mem_of_getElem? (i := 114) rfl)) (by decide) e0 pE_s1 (argsL := []) (rest := []) (c_len0 l Z a0 hw s1 u ku ([]) cs h0 pE_s1 pF_s1_coder pF_s1_value pV_u pS_COMPACT_STRINGS hcs) 0 (by decide) (by decide) (by decide) (by decide) (by rw [hml]; rfl) (lenOf o_pd13 rfl) rfl (Nat.le_of_eq rfl) (hb hby d_jdk_68_method_22_code_10) (n := 13) rfl ?_
  intro v1 T1 L1 X1 q1
  obtain ⟨rfl, e1, rfl⟩ := q1
  have N2 := Fr.app N0 (Fr.nil n0)
  show Goes _ _ p e below s _ _ _ (T1.setTop (mkF m 13 #[.val (.ref a1), .val (.ref s1), .unset] [(.int (0 : Int32))]))
  refine o_istoreN X1 hx (hb hby d_jdk_68_method_22_code_13) (Ls' := #[.val (.ref a1), .val (.ref s1), .val (.int (0 : Int32))]) rfl (n := 14) rfl ?_
  refine o_aloadN X1 hx (hb hby d_jdk_68_method_22_code_14) (v := (.ref a1)) rfl rfl (n := 15) rfl ?_
  refine o_aloadN X1 hx (hb hby d_jdk_68_method_22_code_15) (v := (.ref a1)) rfl rfl (n := 16) rfl ?_
  refine o_getfield X1 hx hZ hown (host := "") (Or.inl (hw _ (List.mem_of_getElem? (i := 120) rfl))) Via.refl e1 pF_a1_count (hb hby d_jdk_68_method_22_code_16) (n := 19) rfl ?_
  intro T3 X3 e3
  refine o_iloadN X3 hx (hb hby d_jdk_68_method_22_code_19) (v := (0 : Int32)) rfl (n := 20) rfl ?_
  refine o_iadd X3 hx (hb hby d_jdk_68_method_22_code_20) (v := (3 : Int32)) (by decide) (n := 21) rfl ?_
  refine o_callP2 X3 hx hZ hown (hw _ (List.mem_of_getElem? (i := 122) rfl)) (hw _ (List.mem_of_getElem? (i := 123) rfl)) (hw _ (List.mem_of_getElem? (i := 124) rfl)) (hw _ (List.mem_of_getElem? (i := 125) rfl)) (hw _ (List.mem_of_getElem? (i := 92) rfl)) (hw _ (List.mem_of_getElem? (i := 126) rfl)) (by decide) e3 pE_a1 (argsL := [(.int (3 : Int32))]) (rest := []) (c_ens3 l Z a0 hw a1 r kr ([(.int d0), (.int d1), (.int d2), (.int (0 : Int32)), (.int (0 : Int32)), (.int (0 : Int32)), (.int (0 : Int32)), (.int (0 : Int32)), (.int (0 : Int32)), (.int (0 : Int32)), (.int (0 : Int32)), (.int (0 : Int32)), (.int (0 : Int32)), (.int (0 : Int32)), (.int (0 : Int32)), (.int (0 : Int32))]) h0 pE_a1 pF_a1_value pF_a1_coder pV_r) 0 (by decide) (by decide) (by decide) (by decide) (by rw [hml]; rfl) (lenOf o_pd9 rfl) rfl (Nat.le_of_eq rfl) (hb hby d_jdk_68_method_22_code_21) (n := 24) rfl ?_
  intro v4 T4 L4 X4 q4
  obtain ⟨rfl, e4, rfl⟩ := q4
  have N5 := Fr.app N2 (Fr.nil n0)
  show Goes _ _ p e below s _ _ _ (T4.setTop (mkF m 24 #[.val (.ref a1), .val (.ref s1), .val (.int (0 : Int32))] []))
  refine o_aloadN X4 hx (hb hby d_jdk_68_method_22_code_24) (v := (.ref a1)) rfl rfl (n := 25) rfl ?_
  refine o_aloadN X4 hx (hb hby d_jdk_68_method_22_code_25) (v := (.ref a1)) rfl rfl (n := 26) rfl ?_
  refine o_getfield X4 hx hZ hown (host := "") (Or.inl (hw _ (List.mem_of_getElem? (i := 120) rfl))) Via.refl e4 pF_a1_count (hb hby d_jdk_68_method_22_code_26) (n := 29) rfl ?_
  intro T6 X6 e6
  refine o_aloadN X6 hx (hb hby d_jdk_68_method_22_code_29) (v := (.ref s1)) rfl rfl (n := 30) rfl ?_
  refine o_callP2 X6 hx hZ hown (hw _ (List.mem_of_getElem? (i := 127) rfl)) (hw _ (List.mem_of_getElem? (i := 128) rfl)) (hw _ (List.mem_of_getElem? (i := 129) rfl)) (hw _ (List.mem_of_getElem? (i := 130) rfl)) (hw _ (List.mem_of_getElem? (i := 92) rfl)) (hw _ (List.mem_of_getElem? (i := 131) rfl)) (by decide) e6 pE_a1 (argsL := [(.int (3 : Int32)), (.ref s1)]) (rest := []) (c_pu03 l Z a0 hw a1 s1 u ku r kr cs d0 d1 d2 h0 n0 Z0 pg_r pE_a1 pF_a1_value pF_a1_coder pE_s1 pF_s1_coder pF_s1_value pV_u pV_r pne_u_r pne_s1_r pne_a1_r pne_a1_s1 pne_a1_u pS_COMPACT_STRINGS hcs) 0 (by decide) (by decide) (by decide) (by decide) (by rw [hml]; rfl) (lenOf o_pd14 rfl) rfl (Nat.le_of_eq rfl) (hb hby d_jdk_68_method_22_code_30) (n := 33) rfl ?_
  intro v7 T7 L7 X7 q7
  obtain ⟨rfl, Nq7, K7, o7_0⟩ := q7
  have N8 := Fr.app N5 Nq7
  have f9 := pE_a1.keep K7
  have f10 := pF_a1_value.keep K7 (ninS pne_a1_r nin0)
  have f11 := pF_a1_coder.keep K7 (ninS pne_a1_r nin0)
  have f12 := pF_a1_count.keep K7 (ninS pne_a1_r nin0)
  have f13 := pE_s1.keep K7
  have f14 := pF_s1_coder.keep K7 (ninS pne_s1_r nin0)
  have f15 := pF_s1_value.keep K7 (ninS pne_s1_r nin0)
  have f16 := pV_u.keep K7 (ninS pne_u_r nin0)
  have f18 := o_sta_keep pS_COMPACT_STRINGS K7 (allS (P := fun a => ∀ cl : Cell, h0[a]? = some cl → cl.vm.isStatics = false) (o_arv_ns pV_r) all0)
  have zz7 : n0 ≤ T7.heap.size := Nat.le_trans Z0 K7.1
  have K19 : Keep h0 T7.heap [a1, r] := (Keep.refl h0 [a1, r]).trans K7 (allS (P := fun x => x ∈ [a1, r] ∨ h0.size ≤ x) (Or.inl (List.mem_of_getElem? (i := 1) rfl)) all0)
  show Goes _ _ p e below s _ _ _ (T7.setTop (mkF m 33 #[.val (.ref a1), .val (.ref s1), .val (.int (0 : Int32))] []))
  refine o_aloadN X7 hx (hb hby d_jdk_68_method_22_code_33) (v := (.ref a1)) rfl rfl (n := 34) rfl ?_
  refine o_dup X7 hx (hb hby d_jdk_68_method_22_code_34) rfl (n := 35) rfl ?_
  refine o_getfield X7 hx hZ hown (host := "") (Or.inl (hw _ (List.mem_of_getElem? (i := 120) rfl))) Via.refl (rfl : T7.heap = T7.heap) f12 (hb hby d_jdk_68_method_22_code_35) (n := 38) rfl ?_
  intro T20 X20 e20
  refine o_iloadN X20 hx (hb hby d_jdk_68_method_22_code_38) (v := (0 : Int32)) rfl (n := 39) rfl ?_
  refine o_iadd X20 hx (hb hby d_jdk_68_method_22_code_39) (v := (3 : Int32)) (by decide) (n := 40) rfl ?_
  refine o_putfield X20 hx hZ hown (host := "") (Or.inl (hw _ (List.mem_of_getElem? (i := 120) rfl))) Via.refl e20 f12 f9 (Or.inl (hw _ (List.mem_of_getElem? (i := 121) rfl))) (hw _ (List.mem_of_getElem? (i := 83) rfl)) (ty := .int) (by decide) rfl rfl (hb hby d_jdk_68_method_22_code_40) (n := 43) rfl ?_
  intro T21 h21 X21 e21 W21 F21 E_21
  have f22 := f10.other W21 (Or.inr (slot_ne (Or.inl (hw _ (List.mem_of_getElem? (i := 97) rfl))) (Or.inl (hw _ (List.mem_of_getElem? (i := 121) rfl))) (by decide) (t := (.array .byte)) (t' := .int) (by decide) (by decide)))
  have f23 := f11.other W21 (Or.inr (slot_ne (Or.inl (hw _ (List.mem_of_getElem? (i := 99) rfl))) (Or.inl (hw _ (List.mem_of_getElem? (i := 121) rfl))) (by decide) (t := .byte) (t' := .int) (by decide) (by decide)))
  have f24 := f13.wr W21
  have f25 := f14.other W21 (Or.inl (Ne.symm pne_a1_s1))
  have f26 := f15.other W21 (Or.inl (Ne.symm pne_a1_s1))
  have f27 := f16.other W21 (Ne.symm pne_a1_u)
  have f28 := f18.wr W21
  have f29 := o7_0.other W21 (Ne.symm pne_a1_r)
  have zz21 : n0 ≤ h21.size := Nat.le_trans zz7 (Nat.le_of_eq W21.size.symm)
  have N30 := Fr.snoc X21 N8 pg_a1
  have K31 : Keep h0 h21 [a1, r] := K19.wr W21 (Or.inl (List.mem_of_getElem? (i := 0) rfl))
  refine o_aloadN X21 hx (hb hby d_jdk_68_method_22_code_43) (v := (.ref a1)) rfl rfl (n := 44) rfl ?_
  exact o_areturn X21 hx hret hlk rfl rfl (hb hby d_jdk_68_method_22_code_44) (by decide) (by decide) e21 ⟨rfl, N30, K31, E_21, f22, f23, F21, f29⟩
theorem o_ef41 (m : MethodId) (a1 : Addr) (s1 : Addr) : entryFrame m #[(.ref a1), (.ref s1)] 2 = mkF m 0 #[.val (.ref a1), .val (.ref s1)] [] := by first | (simp [entryFrame, mkF, argsToLocals, Value.category]; done) | rfl
set_option maxRecDepth 65536 in
set_option maxHeartbeats 40000000 in
theorem c_sp03 (l : Launch) (Z : State) (a0 : Array Value) (hw : ∀ d ∈ tables_1, d.before a0 Z = true) (a1 : Addr) (s1 : Addr) (u : Addr) (ku : ClassId) (r : Addr) (kr : ClassId) (cs : Int32) (d0 : Int32) (d1 : Int32) (d2 : Int32) (h0 : Heap) (n0 : Nat) (Z0 : n0 ≤ h0.size) (pg_a1 : n0 ≤ a1) (pg_r : n0 ≤ r) (pE_a1 : Exa Z h0 a1 "java/lang/StringBuilder") (pF_a1_value : Fld Z h0 a1 "java/lang/AbstractStringBuilder" "value" "[B" (.ref r)) (pF_a1_coder : Fld Z h0 a1 "java/lang/AbstractStringBuilder" "coder" "B" (.int (0 : Int32))) (pF_a1_count : Fld Z h0 a1 "java/lang/AbstractStringBuilder" "count" "I" (.int (3 : Int32))) (pE_s1 : Exa Z h0 s1 "java/lang/String") (pF_s1_coder : Fld Z h0 s1 "java/lang/String" "coder" "B" (.int (0 : Int32))) (pF_s1_value : Fld Z h0 s1 "java/lang/String" "value" "[B" (.ref u)) (pV_u : Arv Z h0 u ku .byte (0 : Int32) [] (.int (0 : Int32))) (pV_r : Arv Z h0 r kr .byte (16 : Int32) [(.int d0), (.int d1), (.int d2), (.int (0 : Int32)), (.int (0 : Int32)), (.int (0 : Int32)), (.int (0 : Int32)), (.int (0 : Int32)), (.int (0 : Int32)), (.int (0 : Int32)), (.int (0 : Int32)), (.int (0 : Int32)), (.int (0 : Int32)), (.int (0 : Int32)), (.int (0 : Int32)), (.int (0 : Int32))] (.int (0 : Int32))) (pne_u_r : u ≠ r) (pne_s1_r : s1 ≠ r) (pne_a1_r : a1 ≠ r) (pne_a1_s1 : a1 ≠ s1) (pne_a1_u : a1 ≠ u) (pS_COMPACT_STRINGS : Sta Z h0 "java/lang/String" "COMPACT_STRINGS" "Z" (.int cs)) (hcs : ¬ cs = (0 : Int32)) :
    Does l Z (⟨"java/lang/StringBuilder", "append", "(Ljava/lang/String;)Ljava/lang/StringBuilder;"⟩ : MethodName) jdk_67_method_7_code 2 (some (.object "java/lang/StringBuilder")) [] ({ frames := 4, cells := 0, slots := 0, locals := 61 } : Room) #[(.ref a1), (.ref s1)] h0 (fun v h L => v = some (.ref a1) ∧ Fr n0 L ∧ Keep h0 h [a1, r] ∧ Exa Z h a1 "java/lang/StringBuilder" ∧ Fld Z h a1 "java/lang/AbstractStringBuilder" "value" "[B" (.ref r) ∧ Fld Z h a1 "java/lang/AbstractStringBuilder" "coder" "B" (.int (0 : Int32)) ∧ Fld Z h a1 "java/lang/AbstractStringBuilder" "count" "I" (.int (3 : Int32)) ∧ Arv Z h r kr .byte (16 : Int32) [(.int d0), (.int d1), (.int d2), (.int (0 : Int32)), (.int (0 : Int32)), (.int (0 : Int32)), (.int (0 : Int32)), (.int (0 : Int32)), (.int (0 : Int32)), (.int (0 : Int32)), (.int (0 : Int32)), (.int (0 : Int32)), (.int (0 : Int32)), (.int (0 : Int32)), (.int (0 : Int32)), (.int (0 : Int32))] (.int (0 : Int32))) := by
  refine Does.of (plainFor_of_name o_pn7) ?_
  intro p e s m below meth c T0 hx hby hml hown hnm hret hlk hZ X0 e0
  have hown : s.vm.findClass "java/lang/StringBuilder" = some m.cls := hown
  have hml : c.maxLocals = 2 := hml
  have hret : meth.sig.returnType = some (.object "java/lang/StringBuilder") := hret
  refine o_entry (o_ef41 m a1 s1) ?_
  have N0 := Fr.nil n0
  refine o_aloadN X0 hx (hb hby d_jdk_67_method_7_code_0) (v := (.ref a1)) rfl rfl (n := 1) rfl ?_
  refine o_aloadN X0 hx (hb hby d_jdk_67_method_7_code_1) (v := (.ref s1)) rfl rfl (n := 2) rfl ?_
  refine o_super X0 hx hZ hown (hw _ (List.mem_of_getElem? (i := 105) rfl)) (o_same (y := ({ cls := "java/lang/AbstractStringBuilder", name := "getValue", desc := "()[B" } : Jvm.MethodName)) (z := ({ cls := "java/lang/AbstractStringBuilder", name := "getValue", desc := "()[B" } : Jvm.MethodName)) (w := ({ cls := "java/lang/AbstractStringBuilder", name := "append", desc := "(Ljava/lang/String;)Ljava/lang/AbstractStringBuilder;" } : Jvm.MethodName)) (hw _ (List.mem_of_getElem? (i := 165) rfl)) rfl rfl (by decide) (hw _ (List.mem_of_getElem? (i := 106) rfl))) (hw _ (List.mem_of_getElem? (i := 106) rfl)) (hw _ (List.mem_of_getElem? (i := 107) rfl)) (by decide) (hw _ (List.mem_of_getElem? (i := 92) rfl)) (hw _ (List.mem_of_getElem? (i := 109) rfl)) e0 pE_a1 (argsL := [(.ref s1)]) (rest := []) (c_ap03 l Z a0 hw a1 s1 u ku r kr cs d0 d1 d2 h0 n0 Z0 pg_a1 pg_r pE_a1 pF_a1_value pF_a1_coder pF_a1_count pE_s1 pF_s1_coder pF_s1_value pV_u pV_r pne_u_r pne_s1_r pne_a1_r pne_a1_s1 pne_a1_u pS_COMPACT_STRINGS hcs) 0 (by decide) (by decide) (by decide) (by decide) (by rw [hml]; rfl) (lenOf o_pd15 rfl) rfl (Nat.le_of_eq rfl) (hb hby d_jdk_67_method_7_code_2) (n := 5) rfl ?_
  intro v1 T1 L1 X1 q1
  obtain ⟨rfl, Nq1, K1, o1_0, o1_1, o1_2, o1_3, o1_4⟩ := q1
  have N2 := Fr.app N0 Nq1
  have f3 := pE_a1.keep K1
  have f7 := pE_s1.keep K1
  have f8 := pF_s1_coder.keep K1 (ninS (Ne.symm pne_a1_s1) (ninS pne_s1_r nin0))
  have f9 := pF_s1_value.keep K1 (ninS (Ne.symm pne_a1_s1) (ninS pne_s1_r nin0))
  have f10 := pV_u.keep K1 (ninS (Ne.symm pne_a1_u) (ninS pne_u_r nin0))
  have f12 := o_sta_keep pS_COMPACT_STRINGS K1 (allS (P := fun a => ∀ cl : Cell, h0[a]? = some cl → cl.vm.isStatics = false) (o_exa_ns pE_a1) (allS (P := fun a => ∀ cl : Cell, h0[a]? = some cl → cl.vm.isStatics = false) (o_arv_ns pV_r) all0))
  have zz1 : n0 ≤ T1.heap.size := Nat.le_trans Z0 K1.1
  have K13 : Keep h0 T1.heap [a1, r] := (Keep.refl h0 [a1, r]).trans K1 (allS (P := fun x => x ∈ [a1, r] ∨ h0.size ≤ x) (Or.inl (List.mem_of_getElem? (i := 0) rfl)) (allS (P := fun x => x ∈ [a1, r] ∨ h0.size ≤ x) (Or.inl (List.mem_of_getElem? (i := 1) rfl)) all0))
  show Goes _ _ p e below s _ _ _ (T1.setTop (mkF m 5 #[.val (.ref a1), .val (.ref s1)] [(.ref a1)]))
  refine o_pop X1 hx (hb hby d_jdk_67_method_7_code_5) rfl (n := 6) rfl ?_
  refine o_aloadN X1 hx (hb hby d_jdk_67_method_7_code_6) (v := (.ref a1)) rfl rfl (n := 7) rfl ?_
  exact o_areturn X1 hx hret hlk rfl rfl (hb hby d_jdk_67_method_7_code_7) (by decide) (by decide) (rfl : T1.heap = T1.heap) ⟨rfl, N2, K13, o1_0, o1_1, o1_2, o1_3, o1_4⟩
theorem o_ef42 (m : MethodId) (s1 : Addr) (r : Addr) : entryFrame m #[(.ref s1), (.ref r), (.int (3 : Int32)), (.int (0 : Int32))] 4 = mkF m 0 #[.val (.ref s1), .val (.ref r), .val (.int (3 : Int32)), .val (.int (0 : Int32))] [] := by first | (simp [entryFrame, mkF, argsToLocals, Value.category]; done) | rfl
set_option maxRecDepth 65536 in
set_option maxHeartbeats 40000000 in
theorem c_gb13 (l : Launch) (Z : State) (a0 : Array Value) (hw : ∀ d ∈ tables_1, d.before a0 Z = true) (s1 : Addr) (u : Addr) (ku : ClassId) (r : Addr) (kr : ClassId) (cs : Int32) (d0 : Int32) (d1 : Int32) (d2 : Int32) (b0 : Int32) (h0 : Heap) (n0 : Nat) (Z0 : n0 ≤ h0.size) (pg_r : n0 ≤ r) (pE_s1 : Exa Z h0 s1 "java/lang/String") (pF_s1_coder : Fld Z h0 s1 "java/lang/String" "coder" "B" (.int (0 : Int32))) (pF_s1_value : Fld Z h0 s1 "java/lang/String" "value" "[B" (.ref u)) (pV_u : Arv Z h0 u ku .byte (1 : Int32) [(.int b0)] (.int (0 : Int32))) (pV_r : Arv Z h0 r kr .byte (16 : Int32) [(.int d0), (.int d1), (.int d2), (.int (0 : Int32)), (.int (0 : Int32)), (.int (0 : Int32)), (.int (0 : Int32)), (.int (0 : Int32)), (.int (0 : Int32)), (.int (0 : Int32)), (.int (0 : Int32)), (.int (0 : Int32)), (.int (0 : Int32)), (.int (0 : Int32)), (.int (0 : Int32)), (.int (0 : Int32))] (.int (0 : Int32))) (pne_u_r : u ≠ r) (pne_s1_r : s1 ≠ r) (pS_COMPACT_STRINGS : Sta Z h0 "java/lang/String" "COMPACT_STRINGS" "Z" (.int cs)) (hcs : ¬ cs = (0 : Int32)) :
    Does l Z (⟨"java/lang/String", "getBytes", "([BIB)V"⟩ : MethodName) jdk_42_method_147_code 4 none [] ({ frames := 1, cells := 0, slots := 0, locals := 18 } : Room) #[(.ref s1), (.ref r), (.int (3 : Int32)), (.int (0 : Int32))] h0 (fun v h L => v = none ∧ Fr n0 L ∧ Keep h0 h [r] ∧ Arv Z h r kr .byte (16 : Int32) [(.int d0), (.int d1), (.int d2), (.int b0), (.int (0 : Int32)), (.int (0 : Int32)), (.int (0 : Int32)), (.int (0 : Int32)), (.int (0 : Int32)), (.int (0 : Int32)), (.int (0 : Int32)), (.int (0 : Int32)), (.int (0 : Int32)), (.int (0 : Int32)), (.int (0 : Int32)), (.int (0 : Int32))] (.int (0 : Int32))) := by
  refine Does.of (plainFor_of_name o_pn1) ?_
  intro p e s m below meth c T0 hx hby hml hown hnm hret hlk hZ X0 e0
  have hown : s.vm.findClass "java/lang/String" = some m.cls := hown
  have hml : c.maxLocals = 4 := hml
  have hret : meth.sig.returnType = none := hret
  refine o_entry (o_ef42 m s1 r) ?_
  have N0 := Fr.nil n0
  refine o_aloadN X0 hx (hb hby d_jdk_42_method_147_code_0) (v := (.ref s1)) rfl rfl (n := 1) rfl ?_
  refine o_callV X0 hx hZ hown (hw _ (List.mem_of_getElem? (i := 115) rfl)) (hw _ (List.mem_of_getElem? (i := 116) rfl)) (hw _ (List.mem_of_getElem? (i := 118) rfl)) (hw _ (List.mem_of_getElem? (i := 117) rfl)) (hw _ (List.mem_of_getElem? (i := 3) rfl)) (hw _ (List.mem_of_getElem? (i := 119) rfl)) (by decide) e0 pE_s1 (argsL := []) (rest := []) (c_cod l Z a0 hw s1 cs h0 pF_s1_coder pS_COMPACT_STRINGS hcs) 0 (by decide) (by decide) (by decide) (by decide) (by rw [hml]; rfl) (lenOf o_pd10 rfl) rfl (Nat.le_of_eq rfl) (hb hby d_jdk_42_method_147_code_1) (n := 4) rfl ?_
  intro v1 T1 L1 X1 q1
  obtain ⟨rfl, e1, rfl⟩ := q1
  have N2 := Fr.app N0 (Fr.nil n0)
  show Goes _ _ p e below s _ _ _ (T1.setTop (mkF m 4 #[.val (.ref s1), .val (.ref r), .val (.int (3 : Int32)), .val (.int (0 : Int32))] [(.int (0 : Int32))]))
  refine o_iloadN X1 hx (hb hby d_jdk_42_method_147_code_4) (v := (0 : Int32)) rfl (n := 5) rfl ?_
  refine o_icmpN X1 hx (hb hby d_jdk_42_method_147_code_5) (XT.ii_ne_f (by decide)) (n := 8) rfl ?_
  refine o_aloadN X1 hx (hb hby d_jdk_42_method_147_code_8) (v := (.ref s1)) rfl rfl (n := 9) rfl ?_
  refine o_getfield X1 hx hZ hown (host := "") (Or.inl (hw _ (List.mem_of_getElem? (i := 28) rfl))) Via.refl e1 pF_s1_value (hb hby d_jdk_42_method_147_code_9) (n := 12) rfl ?_
  intro T3 X3 e3
  refine o_iconst X3 hx (hb hby d_jdk_42_method_147_code_12) (v := (0 : Int32)) rfl (n := 13) rfl ?_
  refine o_aloadN X3 hx (hb hby d_jdk_42_method_147_code_13) (v := (.ref r)) rfl rfl (n := 14) rfl ?_
  refine o_iloadN X3 hx (hb hby d_jdk_42_method_147_code_14) (v := (3 : Int32)) rfl (n := 15) rfl ?_
  refine o_iloadN X3 hx (hb hby d_jdk_42_method_147_code_15) (v := (0 : Int32)) rfl (n := 16) rfl ?_
  refine o_ishl X3 hx (hb hby d_jdk_42_method_147_code_16) (v := (3 : Int32)) (by decide) (n := 17) rfl ?_
  refine o_aloadN X3 hx (hb hby d_jdk_42_method_147_code_17) (v := (.ref s1)) rfl rfl (n := 18) rfl ?_
  refine o_getfield X3 hx hZ hown (host := "") (Or.inl (hw _ (List.mem_of_getElem? (i := 28) rfl))) Via.refl e3 pF_s1_value (hb hby d_jdk_42_method_147_code_18) (n := 21) rfl ?_
  intro T4 X4 e4
  refine o_arraylength X4 hx hZ e4 pV_u (hb hby d_jdk_42_method_147_code_21) (n := 22) rfl ?_
  refine o_acopy X4 hx hZ hown (hw _ (List.mem_of_getElem? (i := 143) rfl)) (hw _ (List.mem_of_getElem? (i := 146) rfl)) (hw _ (List.mem_of_getElem? (i := 144) rfl)) (hw _ (List.mem_of_getElem? (i := 145) rfl)) e4 pV_u pV_r (Or.inl ⟨rfl, rfl⟩) ⟨by decide, by decide, by decide, by decide, by decide, rfl, (show (3 : Int32).toNatClampNeg + (1 : Int32).toNatClampNeg ≤ 16 by decide)⟩ N2 pg_r (by rw [hml]; rfl) (hb hby d_jdk_42_method_147_code_22) (by decide) 0 (Nat.le_of_eq rfl) (by decide) (n := 25) rfl ?_
  intro T5 h5 L5 X5 e5 N5 K5 V5
  have f6 := pE_s1.keep K5
  have f7 := pF_s1_coder.keep K5 (ninS pne_s1_r nin0)
  have f8 := pF_s1_value.keep K5 (ninS pne_s1_r nin0)
  have f9 := pV_u.keep K5 (ninS pne_u_r nin0)
  have f10 := o_sta_keep pS_COMPACT_STRINGS K5 (allS (P := fun a => ∀ cl : Cell, h0[a]? = some cl → cl.vm.isStatics = false) (o_arv_ns pV_r) all0)
  have f11 : Arv Z h5 r kr .byte (16 : Int32) [(.int d0), (.int d1), (.int d2), (.int b0), (.int (0 : Int32)), (.int (0 : Int32)), (.int (0 : Int32)), (.int (0 : Int32)), (.int (0 : Int32)), (.int (0 : Int32)), (.int (0 : Int32)), (.int (0 : Int32)), (.int (0 : Int32)), (.int (0 : Int32)), (.int (0 : Int32)), (.int (0 : Int32))] (.int (0 : Int32)) := V5.pad (fun i => rfl)
  have zz5 : n0 ≤ h5.size := Nat.le_trans Z0 K5.1
  have K12 : Keep h0 h5 [r] := (Keep.refl h0 [r]).trans K5 (allS (P := fun x => x ∈ [r] ∨ h0.size ≤ x) (Or.inl (List.mem_of_getElem? (i := 0) rfl)) all0)
  show Goes _ _ p e below s _ _ _ (T5.setTop (mkF m 25 #[.val (.ref s1), .val (.ref r), .val (.int (3 : Int32)), .val (.int (0 : Int32))] []))
  refine o_goto X5 hx (hb hby d_jdk_42_method_147_code_25) (by decide) (n := 43) (by decide) ?_
  exact o_return X5 hx hret hlk (hb hby d_jdk_42_method_147_code_43) (by decide) (by decide) e5 ⟨rfl, N5, K12, f11⟩
theorem o_ef43 (m : MethodId) (a1 : Addr) (s1 : Addr) : entryFrame m #[(.ref a1), (.int (3 : Int32)), (.ref s1)] 3 = mkF m 0 #[.val (.ref a1), .val (.int (3 : Int32)), .val (.ref s1)] [] := by first | (simp [entryFrame, mkF, argsToLocals, Value.category]; done) | rfl
set_option maxRecDepth 65536 in
set_option maxHeartbeats 40000000 in
theorem c_pu13 (l : Launch) (Z : State) (a0 : Array Value) (hw : ∀ d ∈ tables_1, d.before a0 Z = true) (a1 : Addr) (s1 : Addr) (u : Addr) (ku : ClassId) (r : Addr) (kr : ClassId) (cs : Int32) (d0 : Int32) (d1 : Int32) (d2 : Int32) (b0 : Int32) (h0 : Heap) (n0 : Nat) (Z0 : n0 ≤ h0.size) (pg_r : n0 ≤ r) (pE_a1 : Exa Z h0 a1 "java/lang/StringBuilder") (pF_a1_value : Fld Z h0 a1 "java/lang/AbstractStringBuilder" "value" "[B" (.ref r)) (pF_a1_coder : Fld Z h0 a1 "java/lang/AbstractStringBuilder" "coder" "B" (.int (0 : Int32))) (pE_s1 : Exa Z h0 s1 "java/lang/String") (pF_s1_coder : Fld Z h0 s1 "java/lang/String" "coder" "B" (.int (0 : Int32))) (pF_s1_value : Fld Z h0 s1 "java/lang/String" "value" "[B" (.ref u)) (pV_u : Arv Z h0 u ku .byte (1 : Int32) [(.int b0)] (.int (0 : Int32))) (pV_r : Arv Z h0 r kr .byte (16 : Int32) [(.int d0), (.int d1), (.int d2), (.int (0 : Int32)), (.int (0 : Int32)), (.int (0 : Int32)), (.int (0 : Int32)), (.int (0 : Int32)), (.int (0 : Int32)), (.int (0 : Int32)), (.int (0 : Int32)), (.int (0 : Int32)), (.int (0 : Int32)), (.int (0 : Int32)), (.int (0 : Int32)), (.int (0 : Int32))] (.int (0 : Int32))) (pne_u_r : u ≠ r) (pne_s1_r : s1 ≠ r) (pne_a1_r : a1 ≠ r) (pne_a1_s1 : a1 ≠ s1) (pne_a1_u : a1 ≠ u) (pS_COMPACT_STRINGS : Sta Z h0 "java/lang/String" "COMPACT_STRINGS" "Z" (.int cs)) (hcs : ¬ cs = (0 : Int32)) :
    Does l Z (⟨"java/lang/AbstractStringBuilder", "putStringAt", "(ILjava/lang/String;)V"⟩ : MethodName) jdk_68_method_73_code 3 none [] ({ frames := 2, cells := 0, slots := 0, locals := 33 } : Room) #[(.ref a1), (.int (3 : Int32)), (.ref s1)] h0 (fun v h L => v = none ∧ Fr n0 L ∧ Keep h0 h [r] ∧ Arv Z h r kr .byte (16 : Int32) [(.int d0), (.int d1), (.int d2), (.int b0), (.int (0 : Int32)), (.int (0 : Int32)), (.int (0 : Int32)), (.int (0 : Int32)), (.int (0 : Int32)), (.int (0 : Int32)), (.int (0 : Int32)), (.int (0 : Int32)), (.int (0 : Int32)), (.int (0 : Int32)), (.int (0 : Int32)), (.int (0 : Int32))] (.int (0 : Int32))) := by
  refine Does.of (plainFor_of_name o_pn6) ?_
  intro p e s m below meth c T0 hx hby hml hown hnm hret hlk hZ X0 e0
  have hown : s.vm.findClass "java/lang/AbstractStringBuilder" = some m.cls := hown
  have hml : c.maxLocals = 3 := hml
  have hret : meth.sig.returnType = none := hret
  refine o_entry (o_ef43 m a1 s1) ?_
  have N0 := Fr.nil n0
  refine o_aloadN X0 hx (hb hby d_jdk_68_method_73_code_0) (v := (.ref a1)) rfl rfl (n := 1) rfl ?_
  refine o_aloadN X0 hx (hb hby d_jdk_68_method_73_code_1) (v := (.ref s1)) rfl rfl (n := 2) rfl ?_
  refine o_callP2 X0 hx hZ hown (hw _ (List.mem_of_getElem? (i := 132) rfl)) (hw _ (List.mem_of_getElem? (i := 133) rfl)) (hw _ (List.mem_of_getElem? (i := 134) rfl)) (hw _ (List.mem_of_getElem? (i := 135) rfl)) (hw _ (List.mem_of_getElem? (i := 92) rfl)) (hw _ (List.mem_of_getElem? (i := 136) rfl)) (by decide) e0 pE_a1 (argsL := [(.ref s1)]) (rest := []) (c_inf l Z a0 hw a1 s1 cs h0 pE_a1 pF_a1_coder pE_s1 pF_s1_coder pS_COMPACT_STRINGS hcs) 0 (by decide) (by decide) (by decide) (by decide) (by rw [hml]; rfl) (lenOf o_pd11 rfl) rfl (Nat.le_of_eq rfl) (hb hby d_jdk_68_method_73_code_2) (n := 5) rfl ?_
  intro v1 T1 L1 X1 q1
  obtain ⟨rfl, e1, rfl⟩ := q1
  have N2 := Fr.app N0 (Fr.nil n0)
  show Goes _ _ p e below s _ _ _ (T1.setTop (mkF m 5 #[.val (.ref a1), .val (.int (3 : Int32)), .val (.ref s1)] []))
  refine o_aloadN X1 hx (hb hby d_jdk_68_method_73_code_5) (v := (.ref s1)) rfl rfl (n := 6) rfl ?_
  refine o_aloadN X1 hx (hb hby d_jdk_68_method_73_code_6) (v := (.ref a1)) rfl rfl (n := 7) rfl ?_
  refine o_getfield X1 hx hZ hown (host := "") (Or.inl (hw _ (List.mem_of_getElem? (i := 96) rfl))) Via.refl e1 pF_a1_value (hb hby d_jdk_68_method_73_code_7) (n := 10) rfl ?_
  intro T3 X3 e3
  refine o_iloadN X3 hx (hb hby d_jdk_68_method_73_code_10) (v := (3 : Int32)) rfl (n := 11) rfl ?_
  refine o_aloadN X3 hx (hb hby d_jdk_68_method_73_code_11) (v := (.ref a1)) rfl rfl (n := 12) rfl ?_
  refine o_getfield X3 hx hZ hown (host := "") (Or.inl (hw _ (List.mem_of_getElem? (i := 98) rfl))) Via.refl e3 pF_a1_coder (hb hby d_jdk_68_method_73_code_12) (n := 15) rfl ?_
  intro T4 X4 e4
  refine o_callV X4 hx hZ hown (hw _ (List.mem_of_getElem? (i := 138) rfl)) (hw _ (List.mem_of_getElem? (i := 139) rfl)) (hw _ (List.mem_of_getElem? (i := 141) rfl)) (hw _ (List.mem_of_getElem? (i := 140) rfl)) (hw _ (List.mem_of_getElem? (i := 3) rfl)) (hw _ (List.mem_of_getElem? (i := 142) rfl)) (by decide) e4 pE_s1 (argsL := [(.ref r), (.int (3 : Int32)), (.int (0 : Int32))]) (rest := []) (c_gb13 l Z a0 hw s1 u ku r kr cs d0 d1 d2 b0 h0 n0 Z0 pg_r pE_s1 pF_s1_coder pF_s1_value pV_u pV_r pne_u_r pne_s1_r pS_COMPACT_STRINGS hcs) 0 (by decide) (by decide) (by decide) (by decide) (by rw [hml]; rfl) (lenOf o_pd12 rfl) rfl (Nat.le_of_eq rfl) (hb hby d_jdk_68_method_73_code_15) (n := 18) rfl ?_
  intro v5 T5 L5 X5 q5
  obtain ⟨rfl, Nq5, K5, o5_0⟩ := q5
  have N6 := Fr.app N2 Nq5
  have f7 := pE_a1.keep K5
  have f8 := pF_a1_value.keep K5 (ninS pne_a1_r nin0)
  have f9 := pF_a1_coder.keep K5 (ninS pne_a1_r nin0)
  have f10 := pE_s1.keep K5
  have f11 := pF_s1_coder.keep K5 (ninS pne_s1_r nin0)
  have f12 := pF_s1_value.keep K5 (ninS pne_s1_r nin0)
  have f13 := pV_u.keep K5 (ninS pne_u_r nin0)
  have f15 := o_sta_keep pS_COMPACT_STRINGS K5 (allS (P := fun a => ∀ cl : Cell, h0[a]? = some cl → cl.vm.isStatics = false) (o_arv_ns pV_r) all0)
  have zz5 : n0 ≤ T5.heap.size := Nat.le_trans Z0 K5.1
  have K16 : Keep h0 T5.heap [r] := (Keep.refl h0 [r]).trans K5 (allS (P := fun x => x ∈ [r] ∨ h0.size ≤ x) (Or.inl (List.mem_of_getElem? (i := 0) rfl)) all0)
  show Goes _ _ p e below s _ _ _ (T5.setTop (mkF m 18 #[.val (.ref a1), .val (.int (3 : Int32)), .val (.ref s1)] []))
  exact o_return X5 hx hret hlk (hb hby d_jdk_68_method_73_code_18) (by decide) (by decide) (rfl : T5.heap = T5.heap) ⟨rfl, N6, K16, o5_0⟩
theorem o_ef44 (m : MethodId) (a1 : Addr) (s1 : Addr) : entryFrame m #[(.ref a1), (.ref s1)] 3 = mkF m 0 #[.val (.ref a1), .val (.ref s1), .unset] [] := by first | (simp [entryFrame, mkF, argsToLocals, Value.category]; done) | rfl
set_option maxRecDepth 65536 in
set_option maxHeartbeats 40000000 in
theorem c_ap13 (l : Launch) (Z : State) (a0 : Array Value) (hw : ∀ d ∈ tables_1, d.before a0 Z = true) (a1 : Addr) (s1 : Addr) (u : Addr) (ku : ClassId) (r : Addr) (kr : ClassId) (cs : Int32) (d0 : Int32) (d1 : Int32) (d2 : Int32) (b0 : Int32) (h0 : Heap) (n0 : Nat) (Z0 : n0 ≤ h0.size) (pg_a1 : n0 ≤ a1) (pg_r : n0 ≤ r) (pE_a1 : Exa Z h0 a1 "java/lang/StringBuilder") (pF_a1_value : Fld Z h0 a1 "java/lang/AbstractStringBuilder" "value" "[B" (.ref r)) (pF_a1_coder : Fld Z h0 a1 "java/lang/AbstractStringBuilder" "coder" "B" (.int (0 : Int32))) (pF_a1_count : Fld Z h0 a1 "java/lang/AbstractStringBuilder" "count" "I" (.int (3 : Int32))) (pE_s1 : Exa Z h0 s1 "java/lang/String") (pF_s1_coder : Fld Z h0 s1 "java/lang/String" "coder" "B" (.int (0 : Int32))) (pF_s1_value : Fld Z h0 s1 "java/lang/String" "value" "[B" (.ref u)) (pV_u : Arv Z h0 u ku .byte (1 : Int32) [(.int b0)] (.int (0 : Int32))) (pV_r : Arv Z h0 r kr .byte (16 : Int32) [(.int d0), (.int d1), (.int d2), (.int (0 : Int32)), (.int (0 : Int32)), (.int (0 : Int32)), (.int (0 : Int32)), (.int (0 : Int32)), (.int (0 : Int32)), (.int (0 : Int32)), (.int (0 : Int32)), (.int (0 : Int32)), (.int (0 : Int32)), (.int (0 : Int32)), (.int (0 : Int32)), (.int (0 : Int32))] (.int (0 : Int32))) (pne_u_r : u ≠ r) (pne_s1_r : s1 ≠ r) (pne_a1_r : a1 ≠ r) (pne_a1_s1 : a1 ≠ s1) (pne_a1_u : a1 ≠ u) (pS_COMPACT_STRINGS : Sta Z h0 "java/lang/String" "COMPACT_STRINGS" "Z" (.int cs)) (hcs : ¬ cs = (0 : Int32)) :
    Does l Z (⟨"java/lang/AbstractStringBuilder", "append", "(Ljava/lang/String;)Ljava/lang/AbstractStringBuilder;"⟩ : MethodName) jdk_68_method_22_code 3 (some (.object "java/lang/AbstractStringBuilder")) [] ({ frames := 3, cells := 0, slots := 0, locals := 47 } : Room) #[(.ref a1), (.ref s1)] h0 (fun v h L => v = some (.ref a1) ∧ Fr n0 L ∧ Keep h0 h [a1, r] ∧ Exa Z h a1 "java/lang/StringBuilder" ∧ Fld Z h a1 "java/lang/AbstractStringBuilder" "value" "[B" (.ref r) ∧ Fld Z h a1 "java/lang/AbstractStringBuilder" "coder" "B" (.int (0 : Int32)) ∧ Fld Z h a1 "java/lang/AbstractStringBuilder" "count" "I" (.int (4 : Int32)) ∧ Arv Z h r kr .byte (16 : Int32) [(.int d0), (.int d1), (.int d2), (.int b0), (.int (0 : Int32)), (.int (0 : Int32)), (.int (0 : Int32)), (.int (0 : Int32)), (.int (0 : Int32)), (.int (0 : Int32)), (.int (0 : Int32)), (.int (0 : Int32)), (.int (0 : Int32)), (.int (0 : Int32)), (.int (0 : Int32)), (.int (0 : Int32))] (.int (0 : Int32))) := by
  refine Does.of (plainFor_of_name o_pn6) ?_
  intro p e s m below meth c T0 hx hby hml hown hnm hret hlk hZ X0 e0
  have hown : s.vm.findClass "java/lang/AbstractStringBuilder" = some m.cls := hown
  have hml : c.maxLocals = 3 := hml
  have hret : meth.sig.returnType = some (.object "java/lang/AbstractStringBuilder") := hret
  refine o_entry (o_ef44 m a1 s1) ?_
  have N0 := Fr.nil n0
  refine o_aloadN X0 hx (hb hby d_jdk_68_method_22_code_0) (v := (.ref s1)) rfl rfl (n := 1) rfl ?_
  refine o_ifnonnullY X0 hx (hb hby d_jdk_68_method_22_code_1) (by decide) (n := 9) (by decide) ?_
  refine o_aloadN X0 hx (hb hby d_jdk_68_method_22_code_9) (v := (.ref s1)) rfl rfl (n := 10) rfl ?_
  refine o_callV X0 hx hZ hown (hw _ (List.mem_of_getElem? (i := 110) rfl)) (hw _ (List.mem_of_getElem? (i := 111) rfl)) (hw _ (List.mem_of_getElem? (i := 113) rfl)) (hw _ (List.mem_of_getElem? (i := 112) rfl)) (hw _ (List.mem_of_getElem? (i := 3) rfl)) (hw _ (List.mem_of_getElem? (i := 114) rfl)) (by decide) e0 pE_s1 (argsL := []) (rest := []) (c_len1 l Z a0 hw s1 u ku ([(.int b0)]) cs h0 pE_s1 pF_s1_coder pF_s1_value pV_u pS_COMPACT_STRINGS hcs) 0 (by decide) (by decide) (by decide) (by decide) (by rw [hml]; rfl) (lenOf o_pd13 rfl) rfl (Nat.le_of_eq rfl) (hb hby d_jdk_68_method_22_code_10) (n := 13) rfl ?_
  intro v1 T1 L1 X1 q1
  obtain ⟨rfl, e1, rfl⟩ := q1
  have N2 := Fr.app N0 (Fr.nil n0)
  show Goes _ _ p e below s _ _ _ (T1.setTop (mkF m 13 #[.val (.ref a1), .val (.ref s1), .unset] [(.int (1 : Int32))]))
  refine o_istoreN X1 hx (hb hby d_jdk_68_method_22_code_13) (Ls' := #[.val (.ref a1), .val (.ref s1), .val (.int (1 : Int32))]) rfl (n := 14) rfl ?_
  refine o_aloadN X1 hx (hb hby d_jdk_68_method_22_code_14) (v := (.ref a1)) rfl rfl (n := 15) rfl ?_
  refine o_aloadN X1 hx (hb hby d_jdk_68_method_22_code_15) (v := (.ref a1)) rfl rfl (n := 16) rfl ?_
  refine o_getfield X1 hx hZ hown (host := "") (Or.inl (hw _ (List.mem_of_getElem? (i := 120) rfl))) Via.refl e1 pF_a1_count (hb hby d_jdk_68_method_22_code_16) (n := 19) rfl ?_
  intro T3 X3 e3
  refine o_iloadN X3 hx (hb hby d_jdk_68_method_22_code_19) (v := (1 : Int32)) rfl (n := 20) rfl ?_
  refine o_iadd X3 hx (hb hby d_jdk_68_method_22_code_20) (v := (4 : Int32)) (by decide) (n := 21) rfl ?_
  refine o_callP2 X3 hx hZ hown (hw _ (List.mem_of_getElem? (i := 122) rfl)) (hw _ (List.mem_of_getElem? (i := 123) rfl)) (hw _ (List.mem_of_getElem? (i := 124) rfl)) (hw _ (List.mem_of_getElem? (i := 125) rfl)) (hw _ (List.mem_of_getElem? (i := 92) rfl)) (hw _ (List.mem_of_getElem? (i := 126) rfl)) (by decide) e3 pE_a1 (argsL := [(.int (4 : Int32))]) (rest := []) (c_ens4 l Z a0 hw a1 r kr ([(.int d0), (.int d1), (.int d2), (.int (0 : Int32)), (.int (0 : Int32)), (.int (0 : Int32)), (.int (0 : Int32)), (.int (0 : Int32)), (.int (0 : Int32)), (.int (0 : Int32)), (.int (0 : Int32)), (.int (0 : Int32)), (.int (0 : Int32)), (.int (0 : Int32)), (.int (0 : Int32)), (.int (0 : Int32))]) h0 pE_a1 pF_a1_value pF_a1_coder pV_r) 0 (by decide) (by decide) (by decide) (by decide) (by rw [hml]; rfl) (lenOf o_pd9 rfl) rfl (Nat.le_of_eq rfl) (hb hby d_jdk_68_method_22_code_21) (n := 24) rfl ?_
  intro v4 T4 L4 X4 q4
  obtain ⟨rfl, e4, rfl⟩ := q4
  have N5 := Fr.app N2 (Fr.nil n0)
  show Goes _ _ p e below s _ _ _ (T4.setTop (mkF m 24 #[.val (.ref a1), .val (.ref s1), .val (.int (1 : Int32))] []))
  refine o_aloadN X4 hx (hb hby d_jdk_68_method_22_code_24) (v := (.ref a1)) rfl rfl (n := 25) rfl ?_
  refine o_aloadN X4 hx (hb hby d_jdk_68_method_22_code_25) (v := (.ref a1)) rfl rfl (n := 26) rfl ?_
  refine o_getfield X4 hx hZ hown (host := "") (Or.inl (hw _ (List.mem_of_getElem? (i := 120) rfl))) Via.refl e4 pF_a1_count (hb hby d_jdk_68_method_22_code_26) (n := 29) rfl ?_
  intro T6 X6 e6
  refine o_aloadN X6 hx (hb hby d_jdk_68_method_22_code_29) (v := (.ref s1)) rfl rfl (n := 30) rfl ?_
  refine o_callP2 X6 hx hZ hown (hw _ (List.mem_of_getElem? (i := 127) rfl)) (hw _ (List.mem_of_getElem? (i := 128) rfl)) (hw _ (List.mem_of_getElem? (i := 129) rfl)) (hw _ (List.mem_of_getElem? (i := 130) rfl)) (hw _ (List.mem_of_getElem? (i := 92) rfl)) (hw _ (List.mem_of_getElem? (i := 131) rfl)) (by decide) e6 pE_a1 (argsL := [(.int (3 : Int32)), (.ref s1)]) (rest := []) (c_pu13 l Z a0 hw a1 s1 u ku r kr cs d0 d1 d2 b0 h0 n0 Z0 pg_r pE_a1 pF_a1_value pF_a1_coder pE_s1 pF_s1_coder pF_s1_value pV_u pV_r pne_u_r pne_s1_r pne_a1_r pne_a1_s1 pne_a1_u pS_COMPACT_STRINGS hcs) 0 (by decide) (by decide) (by decide) (by decide) (by rw [hml]; rfl) (lenOf o_pd14 rfl) rfl (Nat.le_of_eq rfl) (hb hby d_jdk_68_method_22_code_30) (n := 33) rfl ?_
  intro v7 T7 L7 X7 q7
  obtain ⟨rfl, Nq7, K7, o7_0⟩ := q7
  have N8 := Fr.app N5 Nq7
  have f9 := pE_a1.keep K7
  have f10 := pF_a1_value.keep K7 (ninS pne_a1_r nin0)
  have f11 := pF_a1_coder.keep K7 (ninS pne_a1_r nin0)
  have f12 := pF_a1_count.keep K7 (ninS pne_a1_r nin0)
  have f13 := pE_s1.keep K7
  have f14 := pF_s1_coder.keep K7 (ninS pne_s1_r nin0)
  have f15 := pF_s1_value.keep K7 (ninS pne_s1_r nin0)
  have f16 := pV_u.keep K7 (ninS pne_u_r nin0)
  have f18 := o_sta_keep pS_COMPACT_STRINGS K7 (allS (P := fun a => ∀ cl : Cell, h0[a]? = some cl → cl.vm.isStatics = false) (o_arv_ns pV_r) all0)
  have zz7 : n0 ≤ T7.heap.size := Nat.le_trans Z0 K7.1
  have K19 : Keep h0 T7.heap [a1, r] := (Keep.refl h0 [a1, r]).trans K7 (allS (P := fun x => x ∈ [a1, r] ∨ h0.size ≤ x) (Or.inl (List.mem_of_getElem? (i := 1) rfl)) all0)
  show Goes _ _ p e below s _ _ _ (T7.setTop (mkF m 33 #[.val (.ref a1), .val (.ref s1), .val (.int (1 : Int32))] []))
  refine o_aloadN X7 hx (hb hby d_jdk_68_method_22_code_33) (v := (.ref a1)) rfl rfl (n := 34) rfl ?_
  refine o_dup X7 hx (hb hby d_jdk_68_method_22_code_34) rfl (n := 35) rfl ?_
  refine o_getfield X7 hx hZ hown (host := "") (Or.inl (hw _ (List.mem_of_getElem? (i := 120) rfl))) Via.refl (rfl : T7.heap = T7.heap) f12 (hb hby d_jdk_68_method_22_code_35) (n := 38) rfl ?_
  intro T20 X20 e20
  refine o_iloadN X20 hx (hb hby d_jdk_68_method_22_code_38) (v := (1 : Int32)) rfl (n := 39) rfl ?_
  refine o_iadd X20 hx (hb hby d_jdk_68_method_22_code_39) (v := (4 : Int32)) (by decide) (n := 40) rfl ?_
  refine o_putfield X20 hx hZ hown (host := "") (Or.inl (hw _ (List.mem_of_getElem? (i := 120) rfl))) Via.refl e20 f12 f9 (Or.inl (hw _ (List.mem_of_getElem? (i := 121) rfl))) (hw _ (List.mem_of_getElem? (i := 83) rfl)) (ty := .int) (by decide) rfl rfl (hb hby d_jdk_68_method_22_code_40) (n := 43) rfl ?_
  intro T21 h21 X21 e21 W21 F21 E_21
  have f22 := f10.other W21 (Or.inr (slot_ne (Or.inl (hw _ (List.mem_of_getElem? (i := 97) rfl))) (Or.inl (hw _ (List.mem_of_getElem? (i := 121) rfl))) (by decide) (t := (.array .byte)) (t' := .int) (by decide) (by decide)))
  have f23 := f11.other W21 (Or.inr (slot_ne (Or.inl (hw _ (List.mem_of_getElem? (i := 99) rfl))) (Or.inl (hw _ (List.mem_of_getElem? (i := 121) rfl))) (by decide) (t := .byte) (t' := .int) (by decide) (by decide)))
  have f24 := f13.wr W21
  have f25 := f14.other W21 (Or.inl (Ne.symm pne_a1_s1))
  have f26 := f15.other W21 (Or.inl (Ne.symm pne_a1_s1))
  have f27 := f16.other W21 (Ne.symm pne_a1_u)
  have f28 := f18.wr W21
  have f29 := o7_0.other W21 (Ne.symm pne_a1_r)
  have zz21 : n0 ≤ h21.size := Nat.le_trans zz7 (Nat.le_of_eq W21.size.symm)
  have N30 := Fr.snoc X21 N8 pg_a1
  have K31 : Keep h0 h21 [a1, r] := K19.wr W21 (Or.inl (List.mem_of_getElem? (i := 0) rfl))
  refine o_aloadN X21 hx (hb hby d_jdk_68_method_22_code_43) (v := (.ref a1)) rfl rfl (n := 44) rfl ?_
  exact o_areturn X21 hx hret hlk rfl rfl (hb hby d_jdk_68_method_22_code_44) (by decide) (by decide) e21 ⟨rfl, N30, K31, E_21, f22, f23, F21, f29⟩
theorem o_ef45 (m : MethodId) (a1 : Addr) (s1 : Addr) : entryFrame m #[(.ref a1), (.ref s1)] 2 = mkF m 0 #[.val (.ref a1), .val (.ref s1)] [] := by first | (simp [entryFrame, mkF, argsToLocals, Value.category]; done) | rfl
set_option maxRecDepth 65536 in
set_option maxHeartbeats 40000000 in
theorem c_sp13 (l : Launch) (Z : State) (a0 : Array Value) (hw : ∀ d ∈ tables_1, d.before a0 Z = true) (a1 : Addr) (s1 : Addr) (u : Addr) (ku : ClassId) (r : Addr) (kr : ClassId) (cs : Int32) (d0 : Int32) (d1 : Int32) (d2 : Int32) (b0 : Int32) (h0 : Heap) (n0 : Nat) (Z0 : n0 ≤ h0.size) (pg_a1 : n0 ≤ a1) (pg_r : n0 ≤ r) (pE_a1 : Exa Z h0 a1 "java/lang/StringBuilder") (pF_a1_value : Fld Z h0 a1 "java/lang/AbstractStringBuilder" "value" "[B" (.ref r)) (pF_a1_coder : Fld Z h0 a1 "java/lang/AbstractStringBuilder" "coder" "B" (.int (0 : Int32))) (pF_a1_count : Fld Z h0 a1 "java/lang/AbstractStringBuilder" "count" "I" (.int (3 : Int32))) (pE_s1 : Exa Z h0 s1 "java/lang/String") (pF_s1_coder : Fld Z h0 s1 "java/lang/String" "coder" "B" (.int (0 : Int32))) (pF_s1_value : Fld Z h0 s1 "java/lang/String" "value" "[B" (.ref u)) (pV_u : Arv Z h0 u ku .byte (1 : Int32) [(.int b0)] (.int (0 : Int32))) (pV_r : Arv Z h0 r kr .byte (16 : Int32) [(.int d0), (.int d1), (.int d2), (.int (0 : Int32)), (.int (0 : Int32)), (.int (0 : Int32)), (.int (0 : Int32)), (.int (0 : Int32)), (.int (0 : Int32)), (.int (0 : Int32)), (.int (0 : Int32)), (.int (0 : Int32)), (.int (0 : Int32)), (.int (0 : Int32)), (.int (0 : Int32)), (.int (0 : Int32))] (.int (0 : Int32))) (pne_u_r : u ≠ r) (pne_s1_r : s1 ≠ r) (pne_a1_r : a1 ≠ r) (pne_a1_s1 : a1 ≠ s1) (pne_a1_u : a1 ≠ u) (pS_COMPACT_STRINGS : Sta Z h0 "java/lang/String" "COMPACT_STRINGS" "Z" (.int cs)) (hcs : ¬ cs = (0 : Int32)) :
    Does l Z (⟨"java/lang/StringBuilder", "append", "(Ljava/lang/String;)Ljava/lang/StringBuilder;"⟩ : MethodName) jdk_67_method_7_code 2 (some (.object "java/lang/StringBuilder")) [] ({ frames := 4, cells := 0, slots := 0, locals := 61 } : Room) #[(.ref a1), (.ref s1)] h0 (fun v h L => v = some (.ref a1) ∧ Fr n0 L ∧ Keep h0 h [a1, r] ∧ Exa Z h a1 "java/lang/StringBuilder" ∧ Fld Z h a1 "java/lang/AbstractStringBuilder" "value" "[B" (.ref r) ∧ Fld Z h a1 "java/lang/AbstractStringBuilder" "coder" "B" (.int (0 : Int32)) ∧ Fld Z h a1 "java/lang/AbstractStringBuilder" "count" "I" (.int (4 : Int32)) ∧ Arv Z h r kr .byte (16 : Int32) [(.int d0), (.int d1), (.int d2), (.int b0), (.int (0 : Int32)), (.int (0 : Int32)), (.int (0 : Int32)), (.int (0 : Int32)), (.int (0 : Int32)), (.int (0 : Int32)), (.int (0 : Int32)), (.int (0 : Int32)), (.int (0 : Int32)), (.int (0 : Int32)), (.int (0 : Int32)), (.int (0 : Int32))] (.int (0 : Int32))) := by
  refine Does.of (plainFor_of_name o_pn7) ?_
  intro p e s m below meth c T0 hx hby hml hown hnm hret hlk hZ X0 e0
  have hown : s.vm.findClass "java/lang/StringBuilder" = some m.cls := hown
  have hml : c.maxLocals = 2 := hml
  have hret : meth.sig.returnType = some (.object "java/lang/StringBuilder") := hret
  refine o_entry (o_ef45 m a1 s1) ?_
  have N0 := Fr.nil n0
  refine o_aloadN X0 hx (hb hby d_jdk_67_method_7_code_0) (v := (.ref a1)) rfl rfl (n := 1) rfl ?_
  refine o_aloadN X0 hx (hb hby d_jdk_67_method_7_code_1) (v := (.ref s1)) rfl rfl (n := 2) rfl ?_
  refine o_super X0 hx hZ hown (hw _ (List.mem_of_getElem? (i := 105) rfl)) (o_same (y := ({ cls := "java/lang/AbstractStringBuilder", name := "getValue", desc := "()[B" } : Jvm.MethodName)) (z := ({ cls := "java/lang/AbstractStringBuilder", name := "getValue", desc := "()[B" } : Jvm.MethodName)) (w := ({ cls := "java/lang/AbstractStringBuilder", name := "append", desc := "(Ljava/lang/String;)Ljava/lang/AbstractStringBuilder;" } : Jvm.MethodName)) (hw _ (List.mem_of_getElem? (i := 165) rfl)) rfl rfl (by decide) (hw _ (List.mem_of_getElem? (i := 106) rfl))) (hw _ (List.mem_of_getElem? (i := 106) rfl)) (hw _ (List.mem_of_getElem? (i := 107) rfl)) (by decide) (hw _ (List.mem_of_getElem? (i := 92) rfl)) (hw _ (List.mem_of_getElem? (i := 109) rfl)) e0 pE_a1 (argsL := [(.ref s1)]) (rest := []) (c_ap13 l Z a0 hw a1 s1 u ku r kr cs d0 d1 d2 b0 h0 n0 Z0 pg_a1 pg_r pE_a1 pF_a1_value pF_a1_coder pF_a1_count pE_s1 pF_s1_coder pF_s1_value pV_u pV_r pne_u_r pne_s1_r pne_a1_r pne_a1_s1 pne_a1_u pS_COMPACT_STRINGS hcs) 0 (by decide) (by decide) (by decide) (by decide) (by rw [hml]; rfl) (lenOf o_pd15 rfl) rfl (Nat.le_of_eq rfl) (hb hby d_jdk_67_method_7_code_2) (n := 5) rfl ?_
  intro v1 T1 L1 X1 q1
  obtain ⟨rfl, Nq1, K1, o1_0, o1_1, o1_2, o1_3, o1_4⟩ := q1
  have N2 := Fr.app N0 Nq1
  have f3 := pE_a1.keep K1
  have f7 := pE_s1.keep K1
  have f8 := pF_s1_coder.keep K1 (ninS (Ne.symm pne_a1_s1) (ninS pne_s1_r nin0))
  have f9 := pF_s1_value.keep K1 (ninS (Ne.symm pne_a1_s1) (ninS pne_s1_r nin0))
  have f10 := pV_u.keep K1 (ninS (Ne.symm pne_a1_u) (ninS pne_u_r nin0))
  have f12 := o_sta_keep pS_COMPACT_STRINGS K1 (allS (P := fun a => ∀ cl : Cell, h0[a]? = some cl → cl.vm.isStatics = false) (o_exa_ns pE_a1) (allS (P := fun a => ∀ cl : Cell, h0[a]? = some cl → cl.vm.isStatics = false) (o_arv_ns pV_r) all0))
  have zz1 : n0 ≤ T1.heap.size := Nat.le_trans Z0 K1.1
  have K13 : Keep h0 T1.heap [a1, r] := (Keep.refl h0 [a1, r]).trans K1 (allS (P := fun x => x ∈ [a1, r] ∨ h0.size ≤ x) (Or.inl (List.mem_of_getElem? (i := 0) rfl)) (allS (P := fun x => x ∈ [a1, r] ∨ h0.size ≤ x) (Or.inl (List.mem_of_getElem? (i := 1) rfl)) all0))
  show Goes _ _ p e below s _ _ _ (T1.setTop (mkF m 5 #[.val (.ref a1), .val (.ref s1)] [(.ref a1)]))
  refine o_pop X1 hx (hb hby d_jdk_67_method_7_code_5) rfl (n := 6) rfl ?_
  refine o_aloadN X1 hx (hb hby d_jdk_67_method_7_code_6) (v := (.ref a1)) rfl rfl (n := 7) rfl ?_
  exact o_areturn X1 hx hret hlk rfl rfl (hb hby d_jdk_67_method_7_code_7) (by decide) (by decide) (rfl : T1.heap = T1.heap) ⟨rfl, N2, K13, o1_0, o1_1, o1_2, o1_3, o1_4⟩
theorem o_ef46 (m : MethodId) (s1 : Addr) (r : Addr) : entryFrame m #[(.ref s1), (.ref r), (.int (3 : Int32)), (.int (0 : Int32))] 4 = mkF m 0 #[.val (.ref s1), .val (.ref r), .val (.int (3 : Int32)), .val (.int (0 : Int32))] [] := by first | (simp [entryFrame, mkF, argsToLocals, Value.category]; done) | rfl
set_option maxRecDepth 65536 in
set_option maxHeartbeats 40000000 in
theorem c_gb23 (l : Launch) (Z : State) (a0 : Array Value) (hw : ∀ d ∈ tables_1, d.before a0 Z = true) (s1 : Addr) (u : Addr) (ku : ClassId) (r : Addr) (kr : ClassId) (cs : Int32) (d0 : Int32) (d1 : Int32) (d2 : Int32) (b0 : Int32) (b1 : Int32) (h0 : Heap) (n0 : Nat) (Z0 : n0 ≤ h0.size) (pg_r : n0 ≤ r) (pE_s1 : Exa Z h0 s1 "java/lang/String") (pF_s1_coder : Fld Z h0 s1 "java/lang/String" "coder" "B" (.int (0 : Int32))) (pF_s1_value : Fld Z h0 s1 "java/lang/String" "value" "[B" (.ref u)) (pV_u : Arv Z h0 u ku .byte (2 : Int32) [(.int b0), (.int b1)] (.int (0 : Int32))) (pV_r : Arv Z h0 r kr .byte (16 : Int32) [(.int d0), (.int d1), (.int d2), (.int (0 : Int32)), (.int (0 : Int32)), (.int (0 : Int32)), (.int (0 : Int32)), (.int (0 : Int32)), (.int (0 : Int32)), (.int (0 : Int32)), (.int (0 : Int32)), (.int (0 : Int32)), (.int (0 : Int32)), (.int (0 : Int32)), (.int (0 : Int32)), (.int (0 : Int32))] (.int (0 : Int32))) (pne_u_r : u ≠ r) (pne_s1_r : s1 ≠ r) (pS_COMPACT_STRINGS : Sta Z h0 "java/lang/String" "COMPACT_STRINGS" "Z" (.int cs)) (hcs : ¬ cs = (0 : Int32)) :
    Does l Z (⟨"java/lang/String", "getBytes", "([BIB)V"⟩ : MethodName) jdk_42_method_147_code 4 none [] ({ frames := 1, cells := 0, slots := 0, locals := 18 } : Room) #[(.ref s1), (.ref r), (.int (3 : Int32)), (.int (0 : Int32))] h0 (fun v h L => v = none ∧ Fr n0 L ∧ Keep h0 h [r] ∧ Arv Z h r kr .byte (16 : Int32) [(.int d0), (.int d1), (.int d2), (.int b0), (.int b1), (.int (0 : Int32)), (.int (0 : Int32)), (.int (0 : Int32)), (.int (0 : Int32)), (.int (0 : Int32)), (.int (0 : Int32)), (.int (0 : Int32)), (.int (0 : Int32)), (.int (0 : Int32)), (.int (0 : Int32)), (.int (0 : Int32))] (.int (0 : Int32))) := by
  refine Does.of (plainFor_of_name o_pn1) ?_
  intro p e s m below meth c T0 hx hby hml hown hnm hret hlk hZ X0 e0
  have hown : s.vm.findClass "java/lang/String" = some m.cls := hown
  have hml : c.maxLocals = 4 := hml
  have hret : meth.sig.returnType = none := hret
  refine o_entry (o_ef46 m s1 r) ?_
  have N0 := Fr.nil n0
  refine o_aloadN X0 hx (hb hby d_jdk_42_method_147_code_0) (v := (.ref s1)) rfl rfl (n := 1) rfl ?_
  refine o_callV X0 hx hZ hown (hw _ (List.mem_of_getElem? (i := 115) rfl)) (hw _ (List.mem_of_getElem? (i := 116) rfl)) (hw _ (List.mem_of_getElem? (i := 118) rfl)) (hw _ (List.mem_of_getElem? (i := 117) rfl)) (hw _ (List.mem_of_getElem? (i := 3) rfl)) (hw _ (List.mem_of_getElem? (i := 119) rfl)) (by decide) e0 pE_s1 (argsL := []) (rest := []) (c_cod l Z a0 hw s1 cs h0 pF_s1_coder pS_COMPACT_STRINGS hcs) 0 (by decide) (by decide) (by decide) (by decide) (by rw [hml]; rfl) (lenOf o_pd10 rfl) rfl (Nat.le_of_eq rfl) (hb hby d_jdk_42_method_147_code_1) (n := 4) rfl ?_
  intro v1 T1 L1 X1 q1
  obtain ⟨rfl, e1, rfl⟩ := q1
  have N2 := Fr.app N0 (Fr.nil n0)
  show Goes _ _ p e below s _ _ _ (T1.setTop (mkF m 4 #[.val (.ref s1), .val (.ref r), .val (.int (3 : Int32)), .val (.int (0 : Int32))] [(.int (0 : Int32))]))
  refine o_iloadN X1 hx (hb hby d_jdk_42_method_147_code_4) (v := (0 : Int32)) rfl (n := 5) rfl ?_
  refine o_icmpN X1 hx (hb hby d_jdk_42_method_147_code_5) (XT.ii_ne_f (by decide)) (n := 8) rfl ?_
  refine o_aloadN X1 hx (hb hby d_jdk_42_method_147_code_8) (v := (.ref s1)) rfl rfl (n := 9) rfl ?_
  refine o_getfield X1 hx hZ hown (host := "") (Or.inl (hw _ (List.mem_of_getElem? (i := 28) rfl))) Via.refl e1 pF_s1_value (hb hby d_jdk_42_method_147_code_9) (n := 12) rfl ?_
  intro T3 X3 e3
  refine o_iconst X3 hx (hb hby d_jdk_42_method_147_code_12) (v := (0 : Int32)) rfl (n := 13) rfl ?_
  refine o_aloadN X3 hx (hb hby d_jdk_42_method_147_code_13) (v := (.ref r)) rfl rfl (n := 14) rfl ?_
  refine o_iloadN X3 hx (hb hby d_jdk_42_method_147_code_14) (v := (3 : Int32)) rfl (n := 15) rfl ?_
  refine o_iloadN X3 hx (hb hby d_jdk_42_method_147_code_15) (v := (0 : Int32)) rfl (n := 16) rfl ?_
  refine o_ishl X3 hx (hb hby d_jdk_42_method_147_code_16) (v := (3 : Int32)) (by decide) (n := 17) rfl ?_
  refine o_aloadN X3 hx (hb hby d_jdk_42_method_147_code_17) (v := (.ref s1)) rfl rfl (n := 18) rfl ?_
  refine o_getfield X3 hx hZ hown (host := "") (Or.inl (hw _ (List.mem_of_getElem? (i := 28) rfl))) Via.refl e3 pF_s1_value (hb hby d_jdk_42_method_147_code_18) (n := 21) rfl ?_
  intro T4 X4 e4
  refine o_arraylength X4 hx hZ e4 pV_u (hb hby d_jdk_42_method_147_code_21) (n := 22) rfl ?_
  refine o_acopy X4 hx hZ hown (hw _ (List.mem_of_getElem? (i := 143) rfl)) (hw _ (List.mem_of_getElem? (i := 146) rfl)) (hw _ (List.mem_of_getElem? (i := 144) rfl)) (hw _ (List.mem_of_getElem? (i := 145) rfl)) e4 pV_u pV_r (Or.inl ⟨rfl, rfl⟩) ⟨by decide, by decide, by decide, by decide, by decide, rfl, (show (3 : Int32).toNatClampNeg + (2 : Int32).toNatClampNeg ≤ 16 by decide)⟩ N2 pg_r (by rw [hml]; rfl) (hb hby d_jdk_42_method_147_code_22) (by decide) 0 (Nat.le_of_eq rfl) (by decide) (n := 25) rfl ?_
  intro T5 h5 L5 X5 e5 N5 K5 V5
  have f6 := pE_s1.keep K5
  have f7 := pF_s1_coder.keep K5 (ninS pne_s1_r nin0)
  have f8 := pF_s1_value.keep K5 (ninS pne_s1_r nin0)
  have f9 := pV_u.keep K5 (ninS pne_u_r nin0)
  have f10 := o_sta_keep pS_COMPACT_STRINGS K5 (allS (P := fun a => ∀ cl : Cell, h0[a]? = some cl → cl.vm.isStatics = false) (o_arv_ns pV_r) all0)
  have f11 : Arv Z h5 r kr .byte (16 : Int32) [(.int d0), (.int d1), (.int d2), (.int b0), (.int b1), (.int (0 : Int32)), (.int (0 : Int32)), (.int (0 : Int32)), (.int (0 : Int32)), (.int (0 : Int32)), (.int (0 : Int32)), (.int (0 : Int32)), (.int (0 : Int32)), (.int (0 : Int32)), (.int (0 : Int32)), (.int (0 : Int32))] (.int (0 : Int32)) := V5.pad (fun i => rfl)
  have zz5 : n0 ≤ h5.size := Nat.le_trans Z0 K5.1
  have K12 : Keep h0 h5 [r] := (Keep.refl h0 [r]).trans K5 (allS (P := fun x => x ∈ [r] ∨ h0.size ≤ x) (Or.inl (List.mem_of_getElem? (i := 0) rfl)) all0)
  show Goes _ _ p e below s _ _ _ (T5.setTop (mkF m 25 #[.val (.ref s1), .val (.ref r), .val (.int (3 : Int32)), .val (.int (0 : Int32))] []))
  refine o_goto X5 hx (hb hby d_jdk_42_method_147_code_25) (by decide) (n := 43) (by decide) ?_
  exact o_return X5 hx hret hlk (hb hby d_jdk_42_method_147_code_43) (by decide) (by decide) e5 ⟨rfl, N5, K12, f11⟩
theorem o_ef47 (m : MethodId) (a1 : Addr) (s1 : Addr) : entryFrame m #[(.ref a1), (.int (3 : Int32)), (.ref s1)] 3 = mkF m 0 #[.val (.ref a1), .val (.int (3 : Int32)), .val (.ref s1)] [] := by first | (simp [entryFrame, mkF, argsToLocals, Value.category]; done) | rfl
set_option maxRecDepth 65536 in
set_option maxHeartbeats 40000000 in
theorem c_pu23 (l : Launch) (Z : State) (a0 : Array Value) (hw : ∀ d ∈ tables_1, d.before a0 Z = true) (a1 : Addr) (s1 : Addr) (u : Addr) (ku : ClassId) (r : Addr) (kr : ClassId) (cs : Int32) (d0 : Int32) (d1 : Int32) (d2 : Int32) (b0 : Int32) (b1 : Int32) (h0 : Heap) (n0 : Nat) (Z0 : n0 ≤ h0.size) (pg_r : n0 ≤ r) (pE_a1 : Exa Z h0 a1 "java/lang/StringBuilder") (pF_a1_value : Fld Z h0 a1 "java/lang/AbstractStringBuilder" "value" "[B" (.ref r)) (pF_a1_coder : Fld Z h0 a1 "java/lang/AbstractStringBuilder" "coder" "B" (.int (0 : Int32))) (pE_s1 : Exa Z h0 s1 "java/lang/String") (pF_s1_coder : Fld Z h0 s1 "java/lang/String" "coder" "B" (.int (0 : Int32))) (pF_s1_value : Fld Z h0 s1 "java/lang/String" "value" "[B" (.ref u)) (pV_u : Arv Z h0 u ku .byte (2 : Int32) [(.int b0), (.int b1)] (.int (0 : Int32))) (pV_r : Arv Z h0 r kr .byte (16 : Int32) [(.int d0), (.int d1), (.int d2), (.int (0 : Int32)), (.int (0 : Int32)), (.int (0 : Int32)), (.int (0 : Int32)), (.int (0 : Int32)), (.int (0 : Int32)), (.int (0 : Int32)), (.int (0 : Int32)), (.int (0 : Int32)), (.int (0 : Int32)), (.int (0 : Int32)), (.int (0 : Int32)), (.int (0 : Int32))] (.int (0 : Int32))) (pne_u_r : u ≠ r) (pne_s1_r : s1 ≠ r) (pne_a1_r : a1 ≠ r) (pne_a1_s1 : a1 ≠ s1) (pne_a1_u : a1 ≠ u) (pS_COMPACT_STRINGS : Sta Z h0 "java/lang/String" "COMPACT_STRINGS" "Z" (.int cs)) (hcs : ¬ cs = (0 : Int32)) :
    Does l Z (⟨"java/lang/AbstractStringBuilder", "putStringAt", "(ILjava/lang/String;)V"⟩ : MethodName) jdk_68_method_73_code 3 none [] ({ frames := 2, cells := 0, slots := 0, locals := 33 } : Room) #[(.ref a1), (.int (3 : Int32)), (.ref s1)] h0 (fun v h L => v = none ∧ Fr n0 L ∧ Keep h0 h [r] ∧ Arv Z h r kr .byte (16 : Int32) [(.int d0), (.int d1), (.int d2), (.int b0), (.int b1), (.int (0 : Int32)), (.int (0 : Int32)), (.int (0 : Int32)), (.int (0 : Int32)), (.int (0 : Int32)), (.int (0 : Int32)), (.int (0 : Int32)), (.int (0 : Int32)), (.int (0 : Int32)), (.int (0 : Int32)), (.int (0 : Int32))] (.int (0 : Int32))) := by
  refine Does.of (plainFor_of_name o_pn6) ?_
  intro p e s m below meth c T0 hx hby hml hown hnm hret hlk hZ X0 e0
  have hown : s.vm.findClass "java/lang/AbstractStringBuilder" = some m.cls := hown
  have hml : c.maxLocals = 3 := hml
  have hret : meth.sig.returnType = none := hret
  refine o_entry (o_ef47 m a1 s1) ?_
  have N0 := Fr.nil n0
  refine o_aloadN X0 hx (hb hby d_jdk_68_method_73_code_0) (v := (.ref a1)) rfl rfl (n := 1) rfl ?_
  refine o_aloadN X0 hx (hb hby d_jdk_68_method_73_code_1) (v := (.ref s1)) rfl rfl (n := 2) rfl ?_
  refine o_callP2 X0 hx hZ hown (hw _ (List.mem_of_getElem? (i := 132) rfl)) (hw _ (List.mem_of_getElem? (i := 133) rfl)) (hw _ (List.mem_of_getElem? (i := 134) rfl)) (hw _ (List.mem_of_getElem? (i := 135) rfl)) (hw _ (List.mem_of_getElem? (i := 92) rfl)) (hw _ (List.mem_of_getElem? (i := 136) rfl)) (by decide) e0 pE_a1 (argsL := [(.ref s1)]) (rest := []) (c_inf l Z a0 hw a1 s1 cs h0 pE_a1 pF_a1_coder pE_s1 pF_s1_coder pS_COMPACT_STRINGS hcs) 0 (by decide) (by decide) (by decide) (by decide) (by rw [hml]; rfl) (lenOf o_pd11 rfl) rfl (Nat.le_of_eq rfl) (hb hby d_jdk_68_method_73_code_2) (n := 5) rfl ?_
  intro v1 T1 L1 X1 q1
  obtain ⟨rfl, e1, rfl⟩ := q1
  have N2 := Fr.app N0 (Fr.nil n0)
  show Goes _ _ p e below s _ _ _ (T1.setTop (mkF m 5 #[.val (.ref a1), .val (.int (3 : Int32)), .val (.ref s1)] []))
  refine o_aloadN X1 hx (hb hby d_jdk_68_method_73_code_5) (v := (.ref s1)) rfl rfl (n := 6) rfl ?_
  refine o_aloadN X1 hx (hb hby d_jdk_68_method_73_code_6) (v := (.ref a1)) rfl rfl (n := 7) rfl ?_
  refine o_getfield X1 hx hZ hown (host := "") (Or.inl (hw _ (List.mem_of_getElem? (i := 96) rfl))) Via.refl e1 pF_a1_value (hb hby d_jdk_68_method_73_code_7) (n := 10) rfl ?_
  intro T3 X3 e3
  refine o_iloadN X3 hx (hb hby d_jdk_68_method_73_code_10) (v := (3 : Int32)) rfl (n := 11) rfl ?_
  refine o_aloadN X3 hx (hb hby d_jdk_68_method_73_code_11) (v := (.ref a1)) rfl rfl (n := 12) rfl ?_
  refine o_getfield X3 hx hZ hown (host := "") (Or.inl (hw _ (List.mem_of_getElem? (i := 98) rfl))) Via.refl e3 pF_a1_coder (hb hby d_jdk_68_method_73_code_12) (n := 15) rfl ?_
  intro T4 X4 e4
  refine o_callV X4 hx hZ hown (hw _ (List.mem_of_getElem? (i := 138) rfl)) (hw _ (List.mem_of_getElem? (i := 139) rfl)) (hw _ (List.mem_of_getElem? (i := 141) rfl)) (hw _ (List.mem_of_getElem? (i := 140) rfl)) (hw _ (List.mem_of_getElem? (i := 3) rfl)) (hw _ (List.mem_of_getElem? (i := 142) rfl)) (by decide) e4 pE_s1 (argsL := [(.ref r), (.int (3 : Int32)), (.int (0 : Int32))]) (rest := []) (c_gb23 l Z a0 hw s1 u ku r kr cs d0 d1 d2 b0 b1 h0 n0 Z0 pg_r pE_s1 pF_s1_coder pF_s1_value pV_u pV_r pne_u_r pne_s1_r pS_COMPACT_STRINGS hcs) 0 (by decide) (by decide) (by decide) (by decide) (by rw [hml]; rfl) (lenOf o_pd12 rfl) rfl (Nat.le_of_eq rfl) (hb hby d_jdk_68_method_73_code_15) (n := 18) rfl ?_
  intro v5 T5 L5 X5 q5
  obtain ⟨rfl, Nq5, K5, o5_0⟩ := q5
  have N6 := Fr.app N2 Nq5
  have f7 := pE_a1.keep K5
  have f8 := pF_a1_value.keep K5 (ninS pne_a1_r nin0)
  have f9 := pF_a1_coder.keep K5 (ninS pne_a1_r nin0)
  have f10 := pE_s1.keep K5
  have f11 := pF_s1_coder.keep K5 (ninS pne_s1_r nin0)
  have f12 := pF_s1_value.keep K5 (ninS pne_s1_r nin0)
  have f13 := pV_u.keep K5 (ninS pne_u_r nin0)
  have f15 := o_sta_keep pS_COMPACT_STRINGS K5 (allS (P := fun a => ∀ cl : Cell, h0[a]? = some cl → cl.vm.isStatics = false) (o_arv_ns pV_r) all0)
  have zz5 : n0 ≤ T5.heap.size := Nat.le_trans Z0 K5.1
  have K16 : Keep h0 T5.heap [r] := (Keep.refl h0 [r]).trans K5 (allS (P := fun x => x ∈ [r] ∨ h0.size ≤ x) (Or.inl (List.mem_of_getElem? (i := 0) rfl)) all0)
  show Goes _ _ p e below s _ _ _ (T5.setTop (mkF m 18 #[.val (.ref a1), .val (.int (3 : Int32)), .val (.ref s1)] []))
  exact o_return X5 hx hret hlk (hb hby d_jdk_68_method_73_code_18) (by decide) (by decide) (rfl : T5.heap = T5.heap) ⟨rfl, N6, K16, o5_0⟩
theorem o_ef48 (m : MethodId) (a1 : Addr) (s1 : Addr) : entryFrame m #[(.ref a1), (.ref s1)] 3 = mkF m 0 #[.val (.ref a1), .val (.ref s1), .unset] [] := by first | (simp [entryFrame, mkF, argsToLocals, Value.category]; done) | rfl
set_option maxRecDepth 65536 in
set_option maxHeartbeats 40000000 in
theorem c_ap23 (l : Launch) (Z : State) (a0 : Array Value) (hw : ∀ d ∈ tables_1, d.before a0 Z = true) (a1 : Addr) (s1 : Addr) (u : Addr) (ku : ClassId) (r : Addr) (kr : ClassId) (cs : Int32) (d0 : Int32) (d1 : Int32) (d2 : Int32) (b0 : Int32) (b1 : Int32) (h0 : Heap) (n0 : Nat) (Z0 : n0 ≤ h0.size) (pg_a1 : n0 ≤ a1) (pg_r : n0 ≤ r) (pE_a1 : Exa Z h0 a1 "java/lang/StringBuilder") (pF_a1_value : Fld Z h0 a1 "java/lang/AbstractStringBuilder" "value" "[B" (.ref r)) (pF_a1_coder : Fld Z h0 a1 "java/lang/AbstractStringBuilder" "coder" "B" (.int (0 : Int32))) (pF_a1_count : Fld Z h0 a1 "java/lang/AbstractStringBuilder" "count" "I" (.int (3 : Int32))) (pE_s1 : Exa Z h0 s1 "java/lang/String") (pF_s1_coder : Fld Z h0 s1 "java/lang/String" "coder" "B" (.int (0 : Int32))) (pF_s1_value : Fld Z h0 s1 "java/lang/String" "value" "[B" (.ref u)) (pV_u : Arv Z h0 u ku .byte (2 : Int32) [(.int b0), (.int b1)] (.int (0 : Int32))) (pV_r : Arv Z h0 r kr .byte (16 : Int32) [(.int d0), (.int d1), (.int d2), (.int (0 : Int32)), (.int (0 : Int32)), (.int (0 : Int32)), (.int (0 : Int32)), (.int (0 : Int32)), (.int (0 : Int32)), (.int (0 : Int32)), (.int (0 : Int32)), (.int (0 : Int32)), (.int (0 : Int32)), (.int (0 : Int32)), (.int (0 : Int32)), (.int (0 : Int32))] (.int (0 : Int32))) (pne_u_r : u ≠ r) (pne_s1_r : s1 ≠ r) (pne_a1_r : a1 ≠ r) (pne_a1_s1 : a1 ≠ s1) (pne_a1_u : a1 ≠ u) (pS_COMPACT_STRINGS : Sta Z h0 "java/lang/String" "COMPACT_STRINGS" "Z" (.int cs)) (hcs : ¬ cs = (0 : Int32)) :
    Does l Z (⟨"java/lang/AbstractStringBuilder", "append", "(Ljava/lang/String;)Ljava/lang/AbstractStringBuilder;"⟩ : MethodName) jdk_68_method_22_code 3 (some (.object "java/lang/AbstractStringBuilder")) [] ({ frames := 3, cells := 0, slots := 0, locals := 47 } : Room) #[(.ref a1), (.ref s1)] h0 (fun v h L => v = some (.ref a1) ∧ Fr n0 L ∧ Keep h0 h [a1, r] ∧ Exa Z h a1 "java/lang/StringBuilder" ∧ Fld Z h a1 "java/lang/AbstractStringBuilder" "value" "[B" (.ref r) ∧ Fld Z h a1 "java/lang/AbstractStringBuilder" "coder" "B" (.int (0 : Int32)) ∧ Fld Z h a1 "java/lang/AbstractStringBuilder" "count" "I" (.int (5 : Int32)) ∧ Arv Z h r kr .byte (16 : Int32) [(.int d0), (.int d1), (.int d2), (.int b0), (.int b1), (.int (0 : Int32)), (.int (0 : Int32)), (.int (0 : Int32)), (.int (0 : Int32)), (.int (0 : Int32)), (.int (0 : Int32)), (.int (0 : Int32)), (.int (0 : Int32)), (.int (0 : Int32)), (.int (0 : Int32)), (.int (0 : Int32))] (.int (0 : Int32))) := by
  refine Does.of (plainFor_of_name o_pn6) ?_
  intro p e s m below meth c T0 hx hby hml hown hnm hret hlk hZ X0 e0
  have hown : s.vm.findClass "java/lang/AbstractStringBuilder" = some m.cls := hown
  have hml : c.maxLocals = 3 := hml
  have hret : meth.sig.returnType = some (.object "java/lang/AbstractStringBuilder") := hret
  refine o_entry (o_ef48 m a1 s1) ?_
  have N0 := Fr.nil n0
  refine o_aloadN X0 hx (hb hby d_jdk_68_method_22_code_0) (v := (.ref s1)) rfl rfl (n := 1) rfl ?_
  refine o_ifnonnullY X0 hx (hb hby d_jdk_68_method_22_code_1) (by decide) (n := 9) (by decide) ?_
  refine o_aloadN X0 hx (hb hby d_jdk_68_method_22_code_9) (v := (.ref s1)) rfl rfl (n := 10) rfl ?_
  refine o_callV X0 hx hZ hown (hw _ (List.mem_of_getElem? (i := 110) rfl)) (hw _ (List.mem_of_getElem? (i := 111) rfl)) (hw _ (List.mem_of_getElem? (i := 113) rfl)) (hw _ (List.mem_of_getElem? (i := 112) rfl)) (hw _ (List.mem_of_getElem? (i := 3) rfl)) (hw _ (List.mem_of_getElem? (i := 114) rfl)) (by decide) e0 pE_s1 (argsL := []) (rest := []) (c_len2 l Z a0 hw s1 u ku ([(.int b0), (.int b1)]) cs h0 pE_s1 pF_s1_coder pF_s1_value pV_u pS_COMPACT_STRINGS hcs) 0 (by decide) (by decide) (by decide) (by decide) (by rw [hml]; rfl) (lenOf o_pd13 rfl) rfl (Nat.le_of_eq rfl) (hb hby d_jdk_68_method_22_code_10) (n := 13) rfl ?_
  intro v1 T1 L1 X1 q1
  obtain ⟨rfl, e1, rfl⟩ := q1
  have N2 := Fr.app N0 (Fr.nil n0)
  show Goes _ _ p e below s _ _ _ (T1.setTop (mkF m 13 #[.val (.ref a1), .val (.ref s1), .unset] [(.int (2 : Int32))]))
  refine o_istoreN X1 hx (hb hby d_jdk_68_method_22_code_13) (Ls' := #[.val (.ref a1), .val (.ref s1), .val (.int (2 : Int32))]) rfl (n := 14) rfl ?_
  refine o_aloadN X1 hx (hb hby d_jdk_68_method_22_code_14) (v := (.ref a1)) rfl rfl (n := 15) rfl ?_
  refine o_aloadN X1 hx (hb hby d_jdk_68_method_22_code_15) (v := (.ref a1)) rfl rfl (n := 16) rfl ?_
  refine o_getfield X1 hx hZ hown (host := "") (Or.inl (hw _ (List.mem_of_getElem? (i := 120) rfl))) Via.refl e1 pF_a1_count (hb hby d_jdk_68_method_22_code_16) (n := 19) rfl ?_
  intro T3 X3 e3
  refine o_iloadN X3 hx (hb hby d_jdk_68_method_22_code_19) (v := (2 : Int32)) rfl (n := 20) rfl ?_
  refine o_iadd X3 hx (hb hby d_jdk_68_method_22_code_20) (v := (5 : Int32)) (by decide) (n := 21) rfl ?_
  refine o_callP2 X3 hx hZ hown (hw _ (List.mem_of_getElem? (i := 122) rfl)) (hw _ (List.mem_of_getElem? (i := 123) rfl)) (hw _ (List.mem_of_getElem? (i := 124) rfl)) (hw _ (List.mem_of_getElem? (i := 125) rfl)) (hw _ (List.mem_of_getElem? (i := 92) rfl)) (hw _ (List.mem_of_getElem? (i := 126) rfl)) (by decide) e3 pE_a1 (argsL := [(.int (5 : Int32))]) (rest := []) (c_ens5 l Z a0 hw a1 r kr ([(.int d0), (.int d1), (.int d2), (.int (0 : Int32)), (.int (0 : Int32)), (.int (0 : Int32)), (.int (0 : Int32)), (.int (0 : Int32)), (.int (0 : Int32)), (.int (0 : Int32)), (.int (0 : Int32)), (.int (0 : Int32)), (.int (0 : Int32)), (.int (0 : Int32)), (.int (0 : Int32)), (.int (0 : Int32))]) h0 pE_a1 pF_a1_value pF_a1_coder pV_r) 0 (by decide) (by decide) (by decide) (by decide) (by rw [hml]; rfl) (lenOf o_pd9 rfl) rfl (Nat.le_of_eq rfl) (hb hby d_jdk_68_method_22_code_21) (n := 24) rfl ?_
  intro v4 T4 L4 X4 q4
  obtain ⟨rfl, e4, rfl⟩ := q4
  have N5 := Fr.app N2 (Fr.nil n0)
  show Goes _ _ p e below s _ _ _ (T4.setTop (mkF m 24 #[.val (.ref a1), .val (.ref s1), .val (.int (2 : Int32))] []))
  refine o_aloadN X4 hx (hb hby d_jdk_68_method_22_code_24) (v := (.ref a1)) rfl rfl (n := 25) rfl ?_
  refine o_aloadN X4 hx (hb hby d_jdk_68_method_22_code_25) (v := (.ref a1)) rfl rfl (n := 26) rfl ?_
  refine o_getfield X4 hx hZ hown (host := "") (Or.inl (hw _ (List.mem_of_getElem? (i := 120) rfl))) Via.refl e4 pF_a1_count (hb hby d_jdk_68_method_22_code_26) (n := 29) rfl ?_
  intro T6 X6 e6
  refine o_aloadN X6 hx (hb hby d_jdk_68_method_22_code_29) (v := (.ref s1)) rfl rfl (n := 30) rfl ?_
  refine o_callP2 X6 hx hZ hown (hw _ (List.mem_of_getElem? (i := 127) rfl)) (hw _ (List.mem_of_getElem? (i := 128) rfl)) (hw _ (List.mem_of_getElem? (i := 129) rfl)) (hw _ (List.mem_of_getElem? (i := 130) rfl)) (hw _ (List.mem_of_getElem? (i := 92) rfl)) (hw _ (List.mem_of_getElem? (i := 131) rfl)) (by decide) e6 pE_a1 (argsL := [(.int (3 : Int32)), (.ref s1)]) (rest := []) (c_pu23 l Z a0 hw a1 s1 u ku r kr cs d0 d1 d2 b0 b1 h0 n0 Z0 pg_r pE_a1 pF_a1_value pF_a1_coder pE_s1 pF_s1_coder pF_s1_value pV_u pV_r pne_u_r pne_s1_r pne_a1_r pne_a1_s1 pne_a1_u pS_COMPACT_STRINGS hcs) 0 (by decide) (by decide) (by decide) (by decide) (by rw [hml]; rfl) (lenOf o_pd14 rfl) rfl (Nat.le_of_eq rfl) (hb hby d_jdk_68_method_22_code_30) (n := 33) rfl ?_
  intro v7 T7 L7 X7 q7
  obtain ⟨rfl, Nq7, K7, o7_0⟩ := q7
  have N8 := Fr.app N5 Nq7
  have f9 := pE_a1.keep K7
  have f10 := pF_a1_value.keep K7 (ninS pne_a1_r nin0)
  have f11 := pF_a1_coder.keep K7 (ninS pne_a1_r nin0)
  have f12 := pF_a1_count.keep K7 (ninS pne_a1_r nin0)
  have f13 := pE_s1.keep K7
  have f14 := pF_s1_coder.keep K7 (ninS pne_s1_r nin0)
  have f15 := pF_s1_value.keep K7 (ninS pne_s1_r nin0)
  have f16 := pV_u.keep K7 (ninS pne_u_r nin0)
  have f18 := o_sta_keep pS_COMPACT_STRINGS K7 (allS (P := fun a => ∀ cl : Cell, h0[a]? = some cl → cl.vm.isStatics = false) (o_arv_ns pV_r) all0)
  have zz7 : n0 ≤ T7.heap.size := Nat.le_trans Z0 K7.1
  have K19 : Keep h0 T7.heap [a1, r] := (Keep.refl h0 [a1, r]).trans K7 (allS (P := fun x => x ∈ [a1, r] ∨ h0.size ≤ x) (Or.inl (List.mem_of_getElem? (i := 1) rfl)) all0)
  show Goes _ _ p e below s _ _ _ (T7.setTop (mkF m 33 #[.val (.ref a1), .val (.ref s1), .val (.int (2 : Int32))] []))
  refine o_aloadN X7 hx (hb hby d_jdk_68_method_22_code_33) (v := (.ref a1)) rfl rfl (n := 34) rfl ?_
  refine o_dup X7 hx (hb hby d_jdk_68_method_22_code_34) rfl (n := 35) rfl ?_
  refine o_getfield X7 hx hZ hown (host := "") (Or.inl (hw _ (List.mem_of_getElem? (i := 120) rfl))) Via.refl (rfl : T7.heap = T7.heap) f12 (hb hby d_jdk_68_method_22_code_35) (n := 38) rfl ?_
  intro T20 X20 e20
  refine o_iloadN X20 hx (hb hby d_jdk_68_method_22_code_38) (v := (2 : Int32)) rfl (n := 39) rfl ?_
  refine o_iadd X20 hx (hb hby d_jdk_68_method_22_code_39) (v := (5 : Int32)) (by decide) (n := 40) rfl ?_
  refine o_putfield X20 hx hZ hown (host := "") (Or.inl (hw _ (List.mem_of_getElem? (i := 120) rfl))) Via.refl e20 f12 f9 (Or.inl (hw _ (List.mem_of_getElem? (i := 121) rfl))) (hw _ (List.mem_of_getElem? (i := 83) rfl)) (ty := .int) (by decide) rfl rfl (hb hby d_jdk_68_method_22_code_40) (n := 43) rfl ?_
  intro T21 h21 X21 e21 W21 F21 E_21
  have f22 := f10.other W21 (Or.inr (slot_ne (Or.inl (hw _ (List.mem_of_getElem? (i := 97) rfl))) (Or.inl (hw _ (List.mem_of_getElem? (i := 121) rfl))) (by decide) (t := (.array .byte)) (t' := .int) (by decide) (by decide)))
  have f23 := f11.other W21 (Or.inr (slot_ne (Or.inl (hw _ (List.mem_of_getElem? (i := 99) rfl))) (Or.inl (hw _ (List.mem_of_getElem? (i := 121) rfl))) (by decide) (t := .byte) (t' := .int) (by decide) (by decide)))
  have f24 := f13.wr W21
  have f25 := f14.other W21 (Or.inl (Ne.symm pne_a1_s1))
  have f26 := f15.other W21 (Or.inl (Ne.symm pne_a1_s1))
  have f27 := f16.other W21 (Ne.symm pne_a1_u)
  have f28 := f18.wr W21
  have f29 := o7_0.other W21 (Ne.symm pne_a1_r)
  have zz21 : n0 ≤ h21.size := Nat.le_trans zz7 (Nat.le_of_eq W21.size.symm)
  have N30 := Fr.snoc X21 N8 pg_a1
  have K31 : Keep h0 h21 [a1, r] := K19.wr W21 (Or.inl (List.mem_of_getElem? (i := 0) rfl))
  refine o_aloadN X21 hx (hb hby d_jdk_68_method_22_code_43) (v := (.ref a1)) rfl rfl (n := 44) rfl ?_
  exact o_areturn X21 hx hret hlk rfl rfl (hb hby d_jdk_68_method_22_code_44) (by decide) (by decide) e21 ⟨rfl, N30, K31, E_21, f22, f23, F21, f29⟩
theorem o_ef49 (m : MethodId) (a1 : Addr) (s1 : Addr) : entryFrame m #[(.ref a1), (.ref s1)] 2 = mkF m 0 #[.val (.ref a1), .val (.ref s1)] [] := by first | (simp [entryFrame, mkF, argsToLocals, Value.category]; done) | rfl
set_option maxRecDepth 65536 in
set_option maxHeartbeats 40000000 in
theorem c_sp23 (l : Launch) (Z : State) (a0 : Array Value) (hw : ∀ d ∈ tables_1, d.before a0 Z = true) (a1 : Addr) (s1 : Addr) (u : Addr) (ku : ClassId) (r : Addr) (kr : ClassId) (cs : Int32) (d0 : Int32) (d1 : Int32) (d2 : Int32) (b0 : Int32) (b1 : Int32) (h0 : Heap) (n0 : Nat) (Z0 : n0 ≤ h0.size) (pg_a1 : n0 ≤ a1) (pg_r : n0 ≤ r) (pE_a1 : Exa Z h0 a1 "java/lang/StringBuilder") (pF_a1_value : Fld Z h0 a1 "java/lang/AbstractStringBuilder" "value" "[B" (.ref r)) (pF_a1_coder : Fld Z h0 a1 "java/lang/AbstractStringBuilder" "coder" "B" (.int (0 : Int32))) (pF_a1_count : Fld Z h0 a1 "java/lang/AbstractStringBuilder" "count" "I" (.int (3 : Int32))) (pE_s1 : Exa Z h0 s1 "java/lang/String") (pF_s1_coder : Fld Z h0 s1 "java/lang/String" "coder" "B" (.int (0 : Int32))) (pF_s1_value : Fld Z h0 s1 "java/lang/String" "value" "[B" (.ref u)) (pV_u : Arv Z h0 u ku .byte (2 : Int32) [(.int b0), (.int b1)] (.int (0 : Int32))) (pV_r : Arv Z h0 r kr .byte (16 : Int32) [(.int d0), (.int d1), (.int d2), (.int (0 : Int32)), (.int (0 : Int32)), (.int (0 : Int32)), (.int (0 : Int32)), (.int (0 : Int32)), (.int (0 : Int32)), (.int (0 : Int32)), (.int (0 : Int32)), (.int (0 : Int32)), (.int (0 : Int32)), (.int (0 : Int32)), (.int (0 : Int32)), (.int (0 : Int32))] (.int (0 : Int32))) (pne_u_r : u ≠ r) (pne_s1_r : s1 ≠ r) (pne_a1_r : a1 ≠ r) (pne_a1_s1 : a1 ≠ s1) (pne_a1_u : a1 ≠ u) (pS_COMPACT_STRINGS : Sta Z h0 "java/lang/String" "COMPACT_STRINGS" "Z" (.int cs)) (hcs : ¬ cs = (0 : Int32)) :
    Does l Z (⟨"java/lang/StringBuilder", "append", "(Ljava/lang/String;)Ljava/lang/StringBuilder;"⟩ : MethodName) jdk_67_method_7_code 2 (some (.object "java/lang/StringBuilder")) [] ({ frames := 4, cells := 0, slots := 0, locals := 61 } : Room) #[(.ref a1), (.ref s1)] h0 (fun v h L => v = some (.ref a1) ∧ Fr n0 L ∧ Keep h0 h [a1, r] ∧ Exa Z h a1 "java/lang/StringBuilder" ∧ Fld Z h a1 "java/lang/AbstractStringBuilder" "value" "[B" (.ref r) ∧ Fld Z h a1 "java/lang/AbstractStringBuilder" "coder" "B" (.int (0 : Int32)) ∧ Fld Z h a1 "java/lang/AbstractStringBuilder" "count" "I" (.int (5 : Int32)) ∧ Arv Z h r kr .byte (16 : Int32) [(.int d0), (.int d1), (.int d2), (.int b0), (.int b1), (.int (0 : Int32)), (.int (0 : Int32)), (.int (0 : Int32)), (.int (0 : Int32)), (.int (0 : Int32)), (.int (0 : Int32)), (.int (0 : Int32)), (.int (0 : Int32)), (.int (0 : Int32)), (.int (0 : Int32)), (.int (0 : Int32))] (.int (0 : Int32))) := by
  refine Does.of (plainFor_of_name o_pn7) ?_
  intro p e s m below meth c T0 hx hby hml hown hnm hret hlk hZ X0 e0
  have hown : s.vm.findClass "java/lang/StringBuilder" = some m.cls := hown
  have hml : c.maxLocals = 2 := hml
  have hret : meth.sig.returnType = some (.object "java/lang/StringBuilder") := hret
  refine o_entry (o_ef49 m a1 s1) ?_
  have N0 := Fr.nil n0
  refine o_aloadN X0 hx (hb hby d_jdk_67_method_7_code_0) (v := (.ref a1)) rfl rfl (n := 1) rfl ?_
  refine o_aloadN X0 hx (hb hby d_jdk_67_method_7_code_1) (v := (.ref s1)) rfl rfl (n := 2) rfl ?_
  refine o_super X0 hx hZ hown (hw _ (List.mem_of_getElem? (i := 105) rfl)) (o_same (y := ({ cls := "java/lang/AbstractStringBuilder", name := "getValue", desc := "()[B" } : Jvm.MethodName)) (z := ({ cls := "java/lang/AbstractStringBuilder", name := "getValue", desc := "()[B" } : Jvm.MethodName)) (w := ({ cls := "java/lang/AbstractStringBuilder", name := "append", desc := "(Ljava/lang/String;)Ljava/lang/AbstractStringBuilder;" } : Jvm.MethodName)) (hw _ (List.mem_of_getElem? (i := 165) rfl)) rfl rfl (by decide) (hw _ (List.mem_of_getElem? (i := 106) rfl))) (hw _ (List.mem_of_getElem? (i := 106) rfl)) (hw _ (List.mem_of_getElem? (i := 107) rfl)) (by decide) (hw _ (List.mem_of_getElem? (i := 92) rfl)) (hw _ (List.mem_of_getElem? (i := 109) rfl)) e0 pE_a1 (argsL := [(.ref s1)]) (rest := []) (c_ap23 l Z a0 hw a1 s1 u ku r kr cs d0 d1 d2 b0 b1 h0 n0 Z0 pg_a1 pg_r pE_a1 pF_a1_value pF_a1_coder pF_a1_count pE_s1 pF_s1_coder pF_s1_value pV_u pV_r pne_u_r pne_s1_r pne_a1_r pne_a1_s1 pne_a1_u pS_COMPACT_STRINGS hcs) 0 (by decide) (by decide) (by decide) (by decide) (by rw [hml]; rfl) (lenOf o_pd15 rfl) rfl (Nat.le_of_eq rfl) (hb hby d_jdk_67_method_7_code_2) (n := 5) rfl ?_
  intro v1 T1 L1 X1 q1
  obtain ⟨rfl, Nq1, K1, o1_0, o1_1, o1_2, o1_3, o1_4⟩ := q1
  have N2 := Fr.app N0 Nq1
  have f3 := pE_a1.keep K1
  have f7 := pE_s1.keep K1
  have f8 := pF_s1_coder.keep K1 (ninS (Ne.symm pne_a1_s1) (ninS pne_s1_r nin0))
  have f9 := pF_s1_value.keep K1 (ninS (Ne.symm pne_a1_s1) (ninS pne_s1_r nin0))
  have f10 := pV_u.keep K1 (ninS (Ne.symm pne_a1_u) (ninS pne_u_r nin0))
  have f12 := o_sta_keep pS_COMPACT_STRINGS K1 (allS (P := fun a => ∀ cl : Cell, h0[a]? = some cl → cl.vm.isStatics = false) (o_exa_ns pE_a1) (allS (P := fun a => ∀ cl : Cell, h0[a]? = some cl → cl.vm.isStatics = false) (o_arv_ns pV_r) all0))
  have zz1 : n0 ≤ T1.heap.size := Nat.le_trans Z0 K1.1
  have K13 : Keep h0 T1.heap [a1, r] := (Keep.refl h0 [a1, r]).trans K1 (allS (P := fun x => x ∈ [a1, r] ∨ h0.size ≤ x) (Or.inl (List.mem_of_getElem? (i := 0) rfl)) (allS (P := fun x => x ∈ [a1, r] ∨ h0.size ≤ x) (Or.inl (List.mem_of_getElem? (i := 1) rfl)) all0))
  show Goes _ _ p e below s _ _ _ (T1.setTop (mkF m 5 #[.val (.ref a1), .val (.ref s1)] [(.ref a1)]))
  refine o_pop X1 hx (hb hby d_jdk_67_method_7_code_5) rfl (n := 6) rfl ?_
  refine o_aloadN X1 hx (hb hby d_jdk_67_method_7_code_6) (v := (.ref a1)) rfl rfl (n := 7) rfl ?_
  exact o_areturn X1 hx hret hlk rfl rfl (hb hby d_jdk_67_method_7_code_7) (by decide) (by decide) (rfl : T1.heap = T1.heap) ⟨rfl, N2, K13, o1_0, o1_1, o1_2, o1_3, o1_4⟩
theorem d_jdk_29_method_69_code_0 : decode jdk_29_method_69_code 0 = .ok (.iload_n 0, 1) := by decide +kernel
theorem d_jdk_29_method_69_code_1 : decode jdk_29_method_69_code 1 = .ok (.iload_n 1, 1) := by decide +kernel
theorem d_jdk_29_method_69_code_2 : decode jdk_29_method_69_code 2 = .ok (.if_icmp .gt 7, 3) := by decide +kernel
theorem d_jdk_29_method_69_code_9 : decode jdk_29_method_69_code 9 = .ok (.iload_n 1, 1) := by decide +kernel
theorem d_jdk_29_method_69_code_10 : decode jdk_29_method_69_code 10 = .ok (.ireturn, 1) := by decide +kernel
theorem o_ef50 (m : MethodId)  : entryFrame m #[(.int (16 : Int32)), (.int (3 : Int32))] 2 = mkF m 0 #[.val (.int (16 : Int32)), .val (.int (3 : Int32))] [] := by first | (simp [entryFrame, mkF, argsToLocals, Value.category]; done) | rfl
set_option maxRecDepth 65536 in
set_option maxHeartbeats 40000000 in
theorem c_min3 (l : Launch) (Z : State) (a0 : Array Value) (hw : ∀ d ∈ tables_1, d.before a0 Z = true)  (h0 : Heap) :
    Does l Z (⟨"java/lang/Math", "min", "(II)I"⟩ : MethodName) jdk_29_method_69_code 2 (some .int) [] ({ frames := 0, cells := 0, slots := 0, locals := 0 } : Room) #[(.int (16 : Int32)), (.int (3 : Int32))] h0 (Pur h0 (.int (3 : Int32))) := by
  refine Does.of (Jvm.Free.JP.mathPlain rfl (by decide +kernel)) ?_
  intro p e s m below meth c T0 hx hby hml hown hnm hret hlk hZ X0 e0
  have hown : s.vm.findClass "java/lang/Math" = some m.cls := hown
  have hml : c.maxLocals = 2 := hml
  have hret : meth.sig.returnType = some .int := hret
  refine o_entry (o_ef50 m ) ?_
  refine o_iloadN X0 hx (hb hby d_jdk_29_method_69_code_0) (v := (16 : Int32)) rfl (n := 1) rfl ?_
  refine o_iloadN X0 hx (hb hby d_jdk_29_method_69_code_1) (v := (3 : Int32)) rfl (n := 2) rfl ?_
  refine o_icmpY X0 hx (hb hby d_jdk_29_method_69_code_2) (XT.ii_gt_t (by decide)) (by decide) (n := 9) (by decide) ?_
  refine o_iloadN X0 hx (hb hby d_jdk_29_method_69_code_9) (v := (3 : Int32)) rfl (n := 10) rfl ?_
  exact o_ireturn X0 hx hret hlk (hb hby d_jdk_29_method_69_code_10) (by decide) (by decide) e0 ⟨rfl, rfl, rfl⟩
theorem d_jdk_65_method_131_code_0 : decode jdk_65_method_131_code 0 = .ok (.iload_n 1, 1) := by decide +kernel
theorem d_jdk_65_method_131_code_1 : decode jdk_65_method_131_code 1 = .ok (.iload_n 0, 1) := by decide +kernel
theorem d_jdk_65_method_131_code_2 : decode jdk_65_method_131_code 2 = .ok (.if_icmp .ge 35, 3) := by decide +kernel
theorem d_jdk_65_method_131_code_37 : decode jdk_65_method_131_code 37 = .ok (.return_, 1) := by decide +kernel
theorem o_ef51 (m : MethodId)  : entryFrame m #[(.int (0 : Int32)), (.int (3 : Int32))] 2 = mkF m 0 #[.val (.int (0 : Int32)), .val (.int (3 : Int32))] [] := by first | (simp [entryFrame, mkF, argsToLocals, Value.category]; done) | rfl
theorem o_pn8 : plainName "java/util/Arrays" = true := by first | (simp [plainName, overriddenIn]; done) | decide +kernel
set_option maxRecDepth 65536 in
set_option maxHeartbeats 40000000 in
theorem c_chk3 (l : Launch) (Z : State) (a0 : Array Value) (hw : ∀ d ∈ tables_1, d.before a0 Z = true)  (h0 : Heap) :
    Does l Z (⟨"java/util/Arrays", "checkLength", "(II)V"⟩ : MethodName) jdk_65_method_131_code 2 none [] ({ frames := 0, cells := 0, slots := 0, locals := 0 } : Room) #[(.int (0 : Int32)), (.int (3 : Int32))] h0 (fun v h L => v = none ∧ h = h0 ∧ L = []) := by
  refine Does.of (plainFor_of_name o_pn8) ?_
  intro p e s m below meth c T0 hx hby hml hown hnm hret hlk hZ X0 e0
  have hown : s.vm.findClass "java/util/Arrays" = some m.cls := hown
  have hml : c.maxLocals = 2 := hml
  have hret : meth.sig.returnType = none := hret
  refine o_entry (o_ef51 m ) ?_
  refine o_iloadN X0 hx (hb hby d_jdk_65_method_131_code_0) (v := (3 : Int32)) rfl (n := 1) rfl ?_
  refine o_iloadN X0 hx (hb hby d_jdk_65_method_131_code_1) (v := (0 : Int32)) rfl (n := 2) rfl ?_
  refine o_icmpY X0 hx (hb hby d_jdk_65_method_131_code_2) (XT.ii_ge_t (by decide)) (by decide) (n := 37) (by decide) ?_
  exact o_return X0 hx hret hlk (hb hby d_jdk_65_method_131_code_37) (by decide) (by decide) e0 ⟨rfl, rfl, rfl⟩
theorem o_ef52 (m : MethodId)  : entryFrame m #[(.int (16 : Int32)), (.int (4 : Int32))] 2 = mkF m 0 #[.val (.int (16 : Int32)), .val (.int (4 : Int32))] [] := by first | (simp [entryFrame, mkF, argsToLocals, Value.category]; done) | rfl
set_option maxRecDepth 65536 in
set_option maxHeartbeats 40000000 in
theorem c_min4 (l : Launch) (Z : State) (a0 : Array Value) (hw : ∀ d ∈ tables_1, d.before a0 Z = true)  (h0 : Heap) :
    Does l Z (⟨"java/lang/Math", "min", "(II)I"⟩ : MethodName) jdk_29_method_69_code 2 (some .int) [] ({ frames := 0, cells := 0, slots := 0, locals := 0 } : Room) #[(.int (16 : Int32)), (.int (4 : Int32))] h0 (Pur h0 (.int (4 : Int32))) := by
  refine Does.of (Jvm.Free.JP.mathPlain rfl (by decide +kernel)) ?_
  intro p e s m below meth c T0 hx hby hml hown hnm hret hlk hZ X0 e0
  have hown : s.vm.findClass "java/lang/Math" = some m.cls := hown
  have hml : c.maxLocals = 2 := hml
  have hret : meth.sig.returnType = some .int := hret
  refine o_entry (o_ef52 m ) ?_
  refine o_iloadN X0 hx (hb hby d_jdk_29_method_69_code_0) (v := (16 : Int32)) rfl (n := 1) rfl ?_
  refine o_iloadN X0 hx (hb hby d_jdk_29_method_69_code_1) (v := (4 : Int32)) rfl (n := 2) rfl ?_
  refine o_icmpY X0 hx (hb hby d_jdk_29_method_69_code_2) (XT.ii_gt_t (by decide)) (by decide) (n := 9) (by decide) ?_
  refine o_iloadN X0 hx (hb hby d_jdk_29_method_69_code_9) (v := (4 : Int32)) rfl (n := 10) rfl ?_
  exact o_ireturn X0 hx hret hlk (hb hby d_jdk_29_method_69_code_10) (by decide) (by decide) e0 ⟨rfl, rfl, rfl⟩
theorem o_ef53 (m : MethodId)  : entryFrame m #[(.int (0 : Int32)), (.int (4 : Int32))] 2 = mkF m 0 #[.val (.int (0 : Int32)), .val (.int (4 : Int32))] [] := by first | (simp [entryFrame, mkF, argsToLocals, Value.category]; done) | rfl
set_option maxRecDepth 65536 in
set_option maxHeartbeats 40000000 in
theorem c_chk4 (l : Launch) (Z : State) (a0 : Array Value) (hw : ∀ d ∈ tables_1, d.before a0 Z = true)  (h0 : Heap) :
    Does l Z (⟨"java/util/Arrays", "checkLength", "(II)V"⟩ : MethodName) jdk_65_method_131_code 2 none [] ({ frames := 0, cells := 0, slots := 0, locals := 0 } : Room) #[(.int (0 : Int32)), (.int (4 : Int32))] h0 (fun v h L => v = none ∧ h = h0 ∧ L = []) := by
  refine Does.of (plainFor_of_name o_pn8) ?_
  intro p e s m below meth c T0 hx hby hml hown hnm hret hlk hZ X0 e0
  have hown : s.vm.findClass "java/util/Arrays" = some m.cls := hown
  have hml : c.maxLocals = 2 := hml
  have hret : meth.sig.returnType = none := hret
  refine o_entry (o_ef53 m ) ?_
  refine o_iloadN X0 hx (hb hby d_jdk_65_method_131_code_0) (v := (4 : Int32)) rfl (n := 1) rfl ?_
  refine o_iloadN X0 hx (hb hby d_jdk_65_method_131_code_1) (v := (0 : Int32)) rfl (n := 2) rfl ?_
  refine o_icmpY X0 hx (hb hby d_jdk_65_method_131_code_2) (XT.ii_ge_t (by decide)) (by decide) (n := 37) (by decide) ?_
  exact o_return X0 hx hret hlk (hb hby d_jdk_65_method_131_code_37) (by decide) (by decide) e0 ⟨rfl, rfl, rfl⟩
theorem o_ef54 (m : MethodId)  : entryFrame m #[(.int (16 : Int32)), (.int (5 : Int32))] 2 = mkF m 0 #[.val (.int (16 : Int32)), .val (.int (5 : Int32))] [] := by first | (simp [entryFrame, mkF, argsToLocals, Value.category]; done) | rfl
set_option maxRecDepth 65536 in
set_option maxHeartbeats 40000000 in
theorem c_min5 (l : Launch) (Z : State) (a0 : Array Value) (hw : ∀ d ∈ tables_1, d.before a0 Z = true)  (h0 : Heap) :
    Does l Z (⟨"java/lang/Math", "min", "(II)I"⟩ : MethodName) jdk_29_method_69_code 2 (some .int) [] ({ frames := 0, cells := 0, slots := 0, locals := 0 } : Room) #[(.int (16 : Int32)), (.int (5 : Int32))] h0 (Pur h0 (.int (5 : Int32))) := by
  refine Does.of (Jvm.Free.JP.mathPlain rfl (by decide +kernel)) ?_
  intro p e s m below meth c T0 hx hby hml hown hnm hret hlk hZ X0 e0
  have hown : s.vm.findClass "java/lang/Math" = some m.cls := hown
  have hml : c.maxLocals = 2 := hml
  have hret : meth.sig.returnType = some .int := hret
  refine o_entry (o_ef54 m ) ?_
  refine o_iloadN X0 hx (hb hby d_jdk_29_method_69_code_0) (v := (16 : Int32)) rfl (n := 1) rfl ?_
  refine o_iloadN X0 hx (hb hby d_jdk_29_method_69_code_1) (v := (5 : Int32)) rfl (n := 2) rfl ?_
  refine o_icmpY X0 hx (hb hby d_jdk_29_method_69_code_2) (XT.ii_gt_t (by decide)) (by decide) (n := 9) (by decide) ?_
  refine o_iloadN X0 hx (hb hby d_jdk_29_method_69_code_9) (v := (5 : Int32)) rfl (n := 10) rfl ?_
  exact o_ireturn X0 hx hret hlk (hb hby d_jdk_29_method_69_code_10) (by decide) (by decide) e0 ⟨rfl, rfl, rfl⟩
theorem o_ef55 (m : MethodId)  : entryFrame m #[(.int (0 : Int32)), (.int (5 : Int32))] 2 = mkF m 0 #[.val (.int (0 : Int32)), .val (.int (5 : Int32))] [] := by first | (simp [entryFrame, mkF, argsToLocals, Value.category]; done) | rfl
set_option maxRecDepth 65536 in
set_option maxHeartbeats 40000000 in
theorem c_chk5 (l : Launch) (Z : State) (a0 : Array Value) (hw : ∀ d ∈ tables_1, d.before a0 Z = true)  (h0 : Heap) :
    Does l Z (⟨"java/util/Arrays", "checkLength", "(II)V"⟩ : MethodName) jdk_65_method_131_code 2 none [] ({ frames := 0, cells := 0, slots := 0, locals := 0 } : Room) #[(.int (0 : Int32)), (.int (5 : Int32))] h0 (fun v h L => v = none ∧ h = h0 ∧ L = []) := by
  refine Does.of (plainFor_of_name o_pn8) ?_
  intro p e s m below meth c T0 hx hby hml hown hnm hret hlk hZ X0 e0
  have hown : s.vm.findClass "java/util/Arrays" = some m.cls := hown
  have hml : c.maxLocals = 2 := hml
  have hret : meth.sig.returnType = none := hret
  refine o_entry (o_ef55 m ) ?_
  refine o_iloadN X0 hx (hb hby d_jdk_65_method_131_code_0) (v := (5 : Int32)) rfl (n := 1) rfl ?_
  refine o_iloadN X0 hx (hb hby d_jdk_65_method_131_code_1) (v := (0 : Int32)) rfl (n := 2) rfl ?_
  refine o_icmpY X0 hx (hb hby d_jdk_65_method_131_code_2) (XT.ii_ge_t (by decide)) (by decide) (n := 37) (by decide) ?_
  exact o_return X0 hx hret hlk (hb hby d_jdk_65_method_131_code_37) (by decide) (by decide) e0 ⟨rfl, rfl, rfl⟩
theorem d_jdk_65_method_133_code_0 : decode jdk_65_method_133_code 0 = .ok (.iload_n 1, 1) := by decide +kernel
theorem d_jdk_65_method_133_code_1 : decode jdk_65_method_133_code 1 = .ok (.iload_n 2, 1) := by decide +kernel
theorem d_jdk_65_method_133_code_2 : decode jdk_65_method_133_code 2 = .ok (.invokestatic 343, 3) := by decide +kernel
theorem o_pd16 : parseMethodDescriptor "(II)V" = some ⟨[.int, .int], none⟩ := by decide +kernel
theorem d_jdk_65_method_133_code_5 : decode jdk_65_method_133_code 5 = .ok (.iload_n 2, 1) := by decide +kernel
theorem d_jdk_65_method_133_code_6 : decode jdk_65_method_133_code 6 = .ok (.iload_n 1, 1) := by decide +kernel
theorem d_jdk_65_method_133_code_7 : decode jdk_65_method_133_code 7 = .ok (.isub, 1) := by decide +kernel
theorem d_jdk_65_method_133_code_8 : decode jdk_65_method_133_code 8 = .ok (.istore_n 3, 1) := by decide +kernel
theorem d_jdk_65_method_133_code_9 : decode jdk_65_method_133_code 9 = .ok (.iload_n 3, 1) := by decide +kernel
theorem d_jdk_65_method_133_code_10 : decode jdk_65_method_133_code 10 = .ok (.newarray .byte, 2) := by decide +kernel
theorem d_jdk_65_method_133_code_12 : decode jdk_65_method_133_code 12 = .ok (.astore 4, 2) := by decide +kernel
theorem d_jdk_65_method_133_code_14 : decode jdk_65_method_133_code 14 = .ok (.aload_n 0, 1) := by decide +kernel
theorem d_jdk_65_method_133_code_15 : decode jdk_65_method_133_code 15 = .ok (.iload_n 1, 1) := by decide +kernel
theorem d_jdk_65_method_133_code_16 : decode jdk_65_method_133_code 16 = .ok (.aload 4, 2) := by decide +kernel
theorem d_jdk_65_method_133_code_18 : decode jdk_65_method_133_code 18 = .ok (.iconst 0, 1) := by decide +kernel
theorem d_jdk_65_method_133_code_19 : decode jdk_65_method_133_code 19 = .ok (.aload_n 0, 1) := by decide +kernel
theorem d_jdk_65_method_133_code_20 : decode jdk_65_method_133_code 20 = .ok (.arraylength, 1) := by decide +kernel
theorem d_jdk_65_method_133_code_21 : decode jdk_65_method_133_code 21 = .ok (.iload_n 1, 1) := by decide +kernel
theorem d_jdk_65_method_133_code_22 : decode jdk_65_method_133_code 22 = .ok (.isub, 1) := by decide +kernel
theorem d_jdk_65_method_133_code_23 : decode jdk_65_method_133_code 23 = .ok (.iload_n 3, 1) := by decide +kernel
theorem d_jdk_65_method_133_code_24 : decode jdk_65_method_133_code 24 = .ok (.invokestatic 304, 3) := by decide +kernel
theorem o_pd17 : parseMethodDescriptor "(II)I" = some ⟨[.int, .int], some .int⟩ := by decide +kernel
theorem d_jdk_65_method_133_code_27 : decode jdk_65_method_133_code 27 = .ok (.invokestatic 150, 3) := by decide +kernel
theorem d_jdk_65_method_133_code_30 : decode jdk_65_method_133_code 30 = .ok (.aload 4, 2) := by decide +kernel
theorem d_jdk_65_method_133_code_32 : decode jdk_65_method_133_code 32 = .ok (.areturn, 1) := by decide +kernel
theorem o_ef56 (m : MethodId) (r : Addr) : entryFrame m #[(.ref r), (.int (0 : Int32)), (.int (3 : Int32))] 5 = mkF m 0 #[.val (.ref r), .val (.int (0 : Int32)), .val (.int (3 : Int32)), .unset, .unset] [] := by first | (simp [entryFrame, mkF, argsToLocals, Value.category]; done) | rfl
set_option maxRecDepth 65536 in
set_option maxHeartbeats 40000000 in
theorem c_crb3 (l : Launch) (Z : State) (a0 : Array Value) (hw : ∀ d ∈ tables_1, d.before a0 Z = true) (r : Addr) (kr : ClassId) (d0 : Int32) (d1 : Int32) (d2 : Int32) (h0 : Heap) (n0 : Nat) (Z0 : n0 ≤ h0.size) (pV_r : Arv Z h0 r kr .byte (16 : Int32) [(.int d0), (.int d1), (.int d2), (.int (0 : Int32)), (.int (0 : Int32)), (.int (0 : Int32)), (.int (0 : Int32)), (.int (0 : Int32)), (.int (0 : Int32)), (.int (0 : Int32)), (.int (0 : Int32)), (.int (0 : Int32)), (.int (0 : Int32)), (.int (0 : Int32)), (.int (0 : Int32)), (.int (0 : Int32))] (.int (0 : Int32))) :
    Does l Z (⟨"java/util/Arrays", "copyOfRangeByte", "([BII)[B"⟩ : MethodName) jdk_65_method_133_code 5 (some (.array .byte)) [] ({ frames := 1, cells := 1, slots := 3, locals := 18 } : Room) #[(.ref r), (.int (0 : Int32)), (.int (3 : Int32))] h0 (fun v h L => ∃ (n1 : Addr) (kn : ClassId), v = some (.ref n1) ∧ Fr n0 L ∧ Keep h0 h [] ∧ h0.size ≤ n1 ∧ Arv Z h n1 kn .byte (3 : Int32) [(.int d0), (.int d1), (.int d2)] (.int (0 : Int32))) := by
  refine Does.of (plainFor_of_name o_pn8) ?_
  intro p e s m below meth c T0 hx hby hml hown hnm hret hlk hZ X0 e0
  have hown : s.vm.findClass "java/util/Arrays" = some m.cls := hown
  have hml : c.maxLocals = 5 := hml
  have hret : meth.sig.returnType = some (.array .byte) := hret
  refine o_entry (o_ef56 m r) ?_
  have N0 := Fr.nil n0
  refine o_iloadN X0 hx (hb hby d_jdk_65_method_133_code_0) (v := (0 : Int32)) rfl (n := 1) rfl ?_
  refine o_iloadN X0 hx (hb hby d_jdk_65_method_133_code_1) (v := (3 : Int32)) rfl (n := 2) rfl ?_
  refine o_callS X0 hx hZ hown (hw _ (List.mem_of_getElem? (i := 187) rfl)) (hw _ (List.mem_of_getElem? (i := 188) rfl)) (hw _ (List.mem_of_getElem? (i := 182) rfl)) (hw _ (List.mem_of_getElem? (i := 189) rfl)) (by decide) e0 (argsL := [(.int (0 : Int32)), (.int (3 : Int32))]) (rest := []) (c_chk3 l Z a0 hw h0) 0 (by decide) (by decide) (by decide) (by decide) (by rw [hml]; rfl) (lenOf o_pd16 rfl) rfl (Nat.le_of_eq rfl) (hb hby d_jdk_65_method_133_code_2) (n := 5) rfl ?_
  intro v1 T1 L1 X1 q1
  obtain ⟨rfl, e1, rfl⟩ := q1
  have N2 := Fr.app N0 (Fr.nil n0)
  show Goes _ _ p e below s _ _ _ (T1.setTop (mkF m 5 #[.val (.ref r), .val (.int (0 : Int32)), .val (.int (3 : Int32)), .unset, .unset] []))
  refine o_iloadN X1 hx (hb hby d_jdk_65_method_133_code_5) (v := (3 : Int32)) rfl (n := 6) rfl ?_
  refine o_iloadN X1 hx (hb hby d_jdk_65_method_133_code_6) (v := (0 : Int32)) rfl (n := 7) rfl ?_
  refine o_isub X1 hx (hb hby d_jdk_65_method_133_code_7) (v := (3 : Int32)) (by decide) (n := 8) rfl ?_
  refine o_istoreN X1 hx (hb hby d_jdk_65_method_133_code_8) (Ls' := #[.val (.ref r), .val (.int (0 : Int32)), .val (.int (3 : Int32)), .val (.int (3 : Int32)), .unset]) rfl (n := 9) rfl ?_
  refine o_iloadN X1 hx (hb hby d_jdk_65_method_133_code_9) (v := (3 : Int32)) rfl (n := 10) rfl ?_
  refine o_newarray X1 hx hZ (aty := .byte) (hw _ (List.mem_of_getElem? (i := 19) rfl)) e1 (hb hby d_jdk_65_method_133_code_10) (by decide) 3 (by decide) (by decide) (by decide) (by decide) (n := 12) rfl ?_
  intro T3 h3 b3 k3 X3 e3 g3 E3 V3
  have ne4 : r ≠ b3 := Nat.ne_of_lt (Nat.lt_of_lt_of_eq pV_r.lt g3.symm)
  have gg3 : n0 ≤ b3 := Nat.le_trans Z0 (Nat.le_of_eq g3.symm)
  have zz3 : n0 ≤ h3.size := Nat.le_trans Z0 E3.1
  have sz3 : h0.size ≤ b3 := Nat.le_trans (Keep.refl h0 []).1 (Nat.le_of_eq g3.symm)
  have f5 := pV_r.ext E3
  have K6 : Keep h0 h3 [] := (Keep.refl h0 []).ext E3
  have f7 : Arv Z h3 b3 k3 .byte (3 : Int32) [(.int (0 : Int32)), (.int (0 : Int32)), (.int (0 : Int32))] (.int (0 : Int32)) := V3.pad (pad_rep [] (.int (0 : Int32)) 3)
  refine o_astore X3 hx (hb hby d_jdk_65_method_133_code_12) rfl (Ls' := #[.val (.ref r), .val (.int (0 : Int32)), .val (.int (3 : Int32)), .val (.int (3 : Int32)), .val (.ref b3)]) rfl (n := 14) rfl ?_
  refine o_aloadN X3 hx (hb hby d_jdk_65_method_133_code_14) (v := (.ref r)) rfl rfl (n := 15) rfl ?_
  refine o_iloadN X3 hx (hb hby d_jdk_65_method_133_code_15) (v := (0 : Int32)) rfl (n := 16) rfl ?_
  refine o_aload X3 hx (hb hby d_jdk_65_method_133_code_16) (v := (.ref b3)) rfl rfl (n := 18) rfl ?_
  refine o_iconst X3 hx (hb hby d_jdk_65_method_133_code_18) (v := (0 : Int32)) rfl (n := 19) rfl ?_
  refine o_aloadN X3 hx (hb hby d_jdk_65_method_133_code_19) (v := (.ref r)) rfl rfl (n := 20) rfl ?_
  refine o_arraylength X3 hx hZ e3 f5 (hb hby d_jdk_65_method_133_code_20) (n := 21) rfl ?_
  refine o_iloadN X3 hx (hb hby d_jdk_65_method_133_code_21) (v := (0 : Int32)) rfl (n := 22) rfl ?_
  refine o_isub X3 hx (hb hby d_jdk_65_method_133_code_22) (v := (16 : Int32)) (by decide) (n := 23) rfl ?_
  refine o_iloadN X3 hx (hb hby d_jdk_65_method_133_code_23) (v := (3 : Int32)) rfl (n := 24) rfl ?_
  refine o_callS X3 hx hZ hown (hw _ (List.mem_of_getElem? (i := 190) rfl)) (hw _ (List.mem_of_getElem? (i := 191) rfl)) (hw _ (List.mem_of_getElem? (i := 192) rfl)) (hw _ (List.mem_of_getElem? (i := 193) rfl)) (by decide) e3 (argsL := [(.int (16 : Int32)), (.int (3 : Int32))]) (rest := [(.int (0 : Int32)), (.ref b3), (.int (0 : Int32)), (.ref r)]) (c_min3 l Z a0 hw h3) 4 (by decide) (by decide) (by decide) (by decide) (by rw [hml]; rfl) (lenOf o_pd17 rfl) rfl (Nat.le_of_eq rfl) (hb hby d_jdk_65_method_133_code_24) (n := 27) rfl ?_
  intro v8 T8 L8 X8 q8
  obtain ⟨rfl, e8, rfl⟩ := q8
  have N9 := Fr.app N2 (Fr.nil n0)
  show Goes _ _ p e below s _ _ _ (T8.setTop (mkF m 27 #[.val (.ref r), .val (.int (0 : Int32)), .val (.int (3 : Int32)), .val (.int (3 : Int32)), .val (.ref b3)] [(.int (3 : Int32)), (.int (0 : Int32)), (.ref b3), (.int (0 : Int32)), (.ref r)]))
  refine o_acopy X8 hx hZ hown (hw _ (List.mem_of_getElem? (i := 194) rfl)) (hw _ (List.mem_of_getElem? (i := 146) rfl)) (hw _ (List.mem_of_getElem? (i := 144) rfl)) (hw _ (List.mem_of_getElem? (i := 145) rfl)) e8 f5 f7 (Or.inl ⟨rfl, rfl⟩) ⟨by decide, by decide, by decide, by decide, by decide, rfl, (show (0 : Int32).toNatClampNeg + (3 : Int32).toNatClampNeg ≤ 3 by decide)⟩ N9 gg3 (by rw [hml]; rfl) (hb hby d_jdk_65_method_133_code_27) (by decide) 0 (Nat.le_of_eq rfl) (by decide) (n := 30) rfl ?_
  intro T10 h10 L10 X10 e10 N10 K10 V10
  have f11 := f5.keep K10 (ninS ne4 nin0)
  have f12 : Arv Z h10 b3 k3 .byte (3 : Int32) [(.int d0), (.int d1), (.int d2)] (.int (0 : Int32)) := V10.pad (fun i => rfl)
  have zz10 : n0 ≤ h10.size := Nat.le_trans zz3 K10.1
  have K13 : Keep h0 h10 [] := K6.trans K10 (allS (P := fun x => x ∈ [] ∨ h0.size ≤ x) (Or.inr sz3) all0)
  show Goes _ _ p e below s _ _ _ (T10.setTop (mkF m 30 #[.val (.ref r), .val (.int (0 : Int32)), .val (.int (3 : Int32)), .val (.int (3 : Int32)), .val (.ref b3)] []))
  refine o_aload X10 hx (hb hby d_jdk_65_method_133_code_30) (v := (.ref b3)) rfl rfl (n := 32) rfl ?_
  exact o_areturn X10 hx hret hlk rfl rfl (hb hby d_jdk_65_method_133_code_32) (by decide) (by decide) e10 ⟨b3, k3, rfl, N10, K13, sz3, f12⟩
theorem d_jdk_65_method_132_code_0 : decode jdk_65_method_132_code 0 = .ok (.iload_n 1, 1) := by decide +kernel
theorem d_jdk_65_method_132_code_1 : decode jdk_65_method_132_code 1 = .ok (.ifCond .ne 9, 3) := by decide +kernel
theorem d_jdk_65_method_132_code_4 : decode jdk_65_method_132_code 4 = .ok (.iload_n 2, 1) := by decide +kernel
theorem d_jdk_65_method_132_code_5 : decode jdk_65_method_132_code 5 = .ok (.aload_n 0, 1) := by decide +kernel
theorem d_jdk_65_method_132_code_6 : decode jdk_65_method_132_code 6 = .ok (.arraylength, 1) := by decide +kernel
theorem d_jdk_65_method_132_code_7 : decode jdk_65_method_132_code 7 = .ok (.if_icmp .eq 10, 3) := by decide +kernel
theorem d_jdk_65_method_132_code_10 : decode jdk_65_method_132_code 10 = .ok (.aload_n 0, 1) := by decide +kernel
theorem d_jdk_65_method_132_code_11 : decode jdk_65_method_132_code 11 = .ok (.iload_n 1, 1) := by decide +kernel
theorem d_jdk_65_method_132_code_12 : decode jdk_65_method_132_code 12 = .ok (.iload_n 2, 1) := by decide +kernel
theorem d_jdk_65_method_132_code_13 : decode jdk_65_method_132_code 13 = .ok (.invokestatic 339, 3) := by decide +kernel
theorem o_pd18 : parseMethodDescriptor "([BII)[B" = some ⟨[(.array .byte), .int, .int], some (.array .byte)⟩ := by decide +kernel
theorem d_jdk_65_method_132_code_16 : decode jdk_65_method_132_code 16 = .ok (.areturn, 1) := by decide +kernel
theorem o_ef57 (m : MethodId) (r : Addr) : entryFrame m #[(.ref r), (.int (0 : Int32)), (.int (3 : Int32))] 3 = mkF m 0 #[.val (.ref r), .val (.int (0 : Int32)), .val (.int (3 : Int32))] [] := by first | (simp [entryFrame, mkF, argsToLocals, Value.category]; done) | rfl
set_option maxRecDepth 65536 in
set_option maxHeartbeats 40000000 in
theorem c_cr3 (l : Launch) (Z : State) (a0 : Array Value) (hw : ∀ d ∈ tables_1, d.before a0 Z = true) (r : Addr) (kr : ClassId) (d0 : Int32) (d1 : Int32) (d2 : Int32) (h0 : Heap) (n0 : Nat) (Z0 : n0 ≤ h0.size) (pV_r : Arv Z h0 r kr .byte (16 : Int32) [(.int d0), (.int d1), (.int d2), (.int (0 : Int32)), (.int (0 : Int32)), (.int (0 : Int32)), (.int (0 : Int32)), (.int (0 : Int32)), (.int (0 : Int32)), (.int (0 : Int32)), (.int (0 : Int32)), (.int (0 : Int32)), (.int (0 : Int32)), (.int (0 : Int32)), (.int (0 : Int32)), (.int (0 : Int32))] (.int (0 : Int32))) :
    Does l Z (⟨"java/util/Arrays", "copyOfRange", "([BII)[B"⟩ : MethodName) jdk_65_method_132_code 3 (some (.array .byte)) [] ({ frames := 2, cells := 1, slots := 3, locals := 34 } : Room) #[(.ref r), (.int (0 : Int32)), (.int (3 : Int32))] h0 (fun v h L => ∃ (n1 : Addr) (kn : ClassId), v = some (.ref n1) ∧ Fr n0 L ∧ Keep h0 h [] ∧ h0.size ≤ n1 ∧ Arv Z h n1 kn .byte (3 : Int32) [(.int d0), (.int d1), (.int d2)] (.int (0 : Int32))) := by
  refine Does.of (plainFor_of_name o_pn8) ?_
  intro p e s m below meth c T0 hx hby hml hown hnm hret hlk hZ X0 e0
  have hown : s.vm.findClass "java/util/Arrays" = some m.cls := hown
  have hml : c.maxLocals = 3 := hml
  have hret : meth.sig.returnType = some (.array .byte) := hret
  refine o_entry (o_ef57 m r) ?_
  have N0 := Fr.nil n0
  refine o_iloadN X0 hx (hb hby d_jdk_65_method_132_code_0) (v := (0 : Int32)) rfl (n := 1) rfl ?_
  refine o_ifN X0 hx (hb hby d_jdk_65_method_132_code_1) (XT.i0_ne_f (by decide)) (n := 4) rfl ?_
  refine o_iloadN X0 hx (hb hby d_jdk_65_method_132_code_4) (v := (3 : Int32)) rfl (n := 5) rfl ?_
  refine o_aloadN X0 hx (hb hby d_jdk_65_method_132_code_5) (v := (.ref r)) rfl rfl (n := 6) rfl ?_
  refine o_arraylength X0 hx hZ e0 pV_r (hb hby d_jdk_65_method_132_code_6) (n := 7) rfl ?_
  refine o_icmpN X0 hx (hb hby d_jdk_65_method_132_code_7) (XT.ii_eq_f (by decide)) (n := 10) rfl ?_
  refine o_aloadN X0 hx (hb hby d_jdk_65_method_132_code_10) (v := (.ref r)) rfl rfl (n := 11) rfl ?_
  refine o_iloadN X0 hx (hb hby d_jdk_65_method_132_code_11) (v := (0 : Int32)) rfl (n := 12) rfl ?_
  refine o_iloadN X0 hx (hb hby d_jdk_65_method_132_code_12) (v := (3 : Int32)) rfl (n := 13) rfl ?_
  refine o_callS X0 hx hZ hown (hw _ (List.mem_of_getElem? (i := 184) rfl)) (hw _ (List.mem_of_getElem? (i := 185) rfl)) (hw _ (List.mem_of_getElem? (i := 182) rfl)) (hw _ (List.mem_of_getElem? (i := 186) rfl)) (by decide) e0 (argsL := [(.ref r), (.int (0 : Int32)), (.int (3 : Int32))]) (rest := []) (c_crb3 l Z a0 hw r kr d0 d1 d2 h0 n0 Z0 pV_r) 0 (by decide) (by decide) (by decide) (by decide) (by rw [hml]; rfl) (lenOf o_pd18 rfl) rfl (Nat.le_of_eq rfl) (hb hby d_jdk_65_method_132_code_13) (n := 16) rfl ?_
  intro v1 T1 L1 X1 q1
  obtain ⟨n1_1, kn_1, rfl, Nq1, K1, sq1_n1, o1_0⟩ := q1
  have N2 := Fr.app N0 Nq1
  have ne3 : r ≠ n1_1 := Nat.ne_of_lt (Nat.lt_of_lt_of_le pV_r.lt sq1_n1)
  have gg1_n1 : n0 ≤ n1_1 := Nat.le_trans Z0 sq1_n1
  have sz1_n1 : h0.size ≤ n1_1 := Nat.le_trans (Keep.refl h0 []).1 sq1_n1
  have f4 := pV_r.keep K1 nin0
  have zz1 : n0 ≤ T1.heap.size := Nat.le_trans Z0 K1.1
  have K5 : Keep h0 T1.heap [] := (Keep.refl h0 []).trans K1 all0
  show Goes _ _ p e below s _ _ _ (T1.setTop (mkF m 16 #[.val (.ref r), .val (.int (0 : Int32)), .val (.int (3 : Int32))] [(.ref n1_1)]))
  exact o_areturn X1 hx hret hlk rfl rfl (hb hby d_jdk_65_method_132_code_16) (by decide) (by decide) (rfl : T1.heap = T1.heap) ⟨n1_1, kn_1, rfl, N2, K5, sz1_n1, o1_0⟩
theorem o_ef58 (m : MethodId) (r : Addr) : entryFrame m #[(.ref r), (.int (0 : Int32)), (.int (4 : Int32))] 5 = mkF m 0 #[.val (.ref r), .val (.int (0 : Int32)), .val (.int (4 : Int32)), .unset, .unset] [] := by first | (simp [entryFrame, mkF, argsToLocals, Value.category]; done) | rfl
set_option maxRecDepth 65536 in
set_option maxHeartbeats 40000000 in
theorem c_crb4 (l : Launch) (Z : State) (a0 : Array Value) (hw : ∀ d ∈ tables_1, d.before a0 Z = true) (r : Addr) (kr : ClassId) (d0 : Int32) (d1 : Int32) (d2 : Int32) (d3 : Int32) (h0 : Heap) (n0 : Nat) (Z0 : n0 ≤ h0.size) (pV_r : Arv Z h0 r kr .byte (16 : Int32) [(.int d0), (.int d1), (.int d2), (.int d3), (.int (0 : Int32)), (.int (0 : Int32)), (.int (0 : Int32)), (.int (0 : Int32)), (.int (0 : Int32)), (.int (0 : Int32)), (.int (0 : Int32)), (.int (0 : Int32)), (.int (0 : Int32)), (.int (0 : Int32)), (.int (0 : Int32)), (.int (0 : Int32))] (.int (0 : Int32))) :
    Does l Z (⟨"java/util/Arrays", "copyOfRangeByte", "([BII)[B"⟩ : MethodName) jdk_65_method_133_code 5 (some (.array .byte)) [] ({ frames := 1, cells := 1, slots := 4, locals := 18 } : Room) #[(.ref r), (.int (0 : Int32)), (.int (4 : Int32))] h0 (fun v h L => ∃ (n1 : Addr) (kn : ClassId), v = some (.ref n1) ∧ Fr n0 L ∧ Keep h0 h [] ∧ h0.size ≤ n1 ∧ Arv Z h n1 kn .byte (4 : Int32) [(.int d0), (.int d1), (.int d2), (.int d3)] (.int (0 : Int32))) := by
  refine Does.of (plainFor_of_name o_pn8) ?_
  intro p e s m below meth c T0 hx hby hml hown hnm hret hlk hZ X0 e0
  have hown : s.vm.findClass "java/util/Arrays" = some m.cls := hown
  have hml : c.maxLocals = 5 := hml
  have hret : meth.sig.returnType = some (.array .byte) := hret
  refine o_entry (o_ef58 m r) ?_
  have N0 := Fr.nil n0
  refine o_iloadN X0 hx (hb hby d_jdk_65_method_133_code_0) (v := (0 : Int32)) rfl (n := 1) rfl ?_
  refine o_iloadN X0 hx (hb hby d_jdk_65_method_133_code_1) (v := (4 : Int32)) rfl (n := 2) rfl ?_
  refine o_callS X0 hx hZ hown (hw _ (List.mem_of_getElem? (i := 187) rfl)) (hw _ (List.mem_of_getElem? (i := 188) rfl)) (hw _ (List.mem_of_getElem? (i := 182) rfl)) (hw _ (List.mem_of_getElem? (i := 189) rfl)) (by decide) e0 (argsL := [(.int (0 : Int32)), (.int (4 : Int32))]) (rest := []) (c_chk4 l Z a0 hw h0) 0 (by decide) (by decide) (by decide) (by decide) (by rw [hml]; rfl) (lenOf o_pd16 rfl) rfl (Nat.le_of_eq rfl) (hb hby d_jdk_65_method_133_code_2) (n := 5) rfl ?_
  intro v1 T1 L1 X1 q1
  obtain ⟨rfl, e1, rfl⟩ := q1
  have N2 := Fr.app N0 (Fr.nil n0)
  show Goes _ _ p e below s _ _ _ (T1.setTop (mkF m 5 #[.val (.ref r), .val (.int (0 : Int32)), .val (.int (4 : Int32)), .unset, .unset] []))
  refine o_iloadN X1 hx (hb hby d_jdk_65_method_133_code_5) (v := (4 : Int32)) rfl (n := 6) rfl ?_
  refine o_iloadN X1 hx (hb hby d_jdk_65_method_133_code_6) (v := (0 : Int32)) rfl (n := 7) rfl ?_
  refine o_isub X1 hx (hb hby d_jdk_65_method_133_code_7) (v := (4 : Int32)) (by decide) (n := 8) rfl ?_
  refine o_istoreN X1 hx (hb hby d_jdk_65_method_133_code_8) (Ls' := #[.val (.ref r), .val (.int (0 : Int32)), .val (.int (4 : Int32)), .val (.int (4 : Int32)), .unset]) rfl (n := 9) rfl ?_
  refine o_iloadN X1 hx (hb hby d_jdk_65_method_133_code_9) (v := (4 : Int32)) rfl (n := 10) rfl ?_
  refine o_newarray X1 hx hZ (aty := .byte) (hw _ (List.mem_of_getElem? (i := 19) rfl)) e1 (hb hby d_jdk_65_method_133_code_10) (by decide) 4 (by decide) (by decide) (by decide) (by decide) (n := 12) rfl ?_
  intro T3 h3 b3 k3 X3 e3 g3 E3 V3
  have ne4 : r ≠ b3 := Nat.ne_of_lt (Nat.lt_of_lt_of_eq pV_r.lt g3.symm)
  have gg3 : n0 ≤ b3 := Nat.le_trans Z0 (Nat.le_of_eq g3.symm)
  have zz3 : n0 ≤ h3.size := Nat.le_trans Z0 E3.1
  have sz3 : h0.size ≤ b3 := Nat.le_trans (Keep.refl h0 []).1 (Nat.le_of_eq g3.symm)
  have f5 := pV_r.ext E3
  have K6 : Keep h0 h3 [] := (Keep.refl h0 []).ext E3
  have f7 : Arv Z h3 b3 k3 .byte (4 : Int32) [(.int (0 : Int32)), (.int (0 : Int32)), (.int (0 : Int32)), (.int (0 : Int32))] (.int (0 : Int32)) := V3.pad (pad_rep [] (.int (0 : Int32)) 4)
  refine o_astore X3 hx (hb hby d_jdk_65_method_133_code_12) rfl (Ls' := #[.val (.ref r), .val (.int (0 : Int32)), .val (.int (4 : Int32)), .val (.int (4 : Int32)), .val (.ref b3)]) rfl (n := 14) rfl ?_
  refine o_aloadN X3 hx (hb hby d_jdk_65_method_133_code_14) (v := (.ref r)) rfl rfl (n := 15) rfl ?_
  refine o_iloadN X3 hx (hb hby d_jdk_65_method_133_code_15) (v := (0 : Int32)) rfl (n := 16) rfl ?_
  refine o_aload X3 hx (hb hby d_jdk_65_method_133_code_16) (v := (.ref b3)) rfl rfl (n := 18) rfl ?_
  refine o_iconst X3 hx (hb hby d_jdk_65_method_133_code_18) (v := (0 : Int32)) rfl (n := 19) rfl ?_
  refine o_aloadN X3 hx (hb hby d_jdk_65_method_133_code_19) (v := (.ref r)) rfl rfl (n := 20) rfl ?_
  refine o_arraylength X3 hx hZ e3 f5 (hb hby d_jdk_65_method_133_code_20) (n := 21) rfl ?_
  refine o_iloadN X3 hx (hb hby d_jdk_65_method_133_code_21) (v := (0 : Int32)) rfl (n := 22) rfl ?_
  refine o_isub X3 hx (hb hby d_jdk_65_method_133_code_22) (v := (16 : Int32)) (by decide) (n := 23) rfl ?_
  refine o_iloadN X3 hx (hb hby d_jdk_65_method_133_code_23) (v := (4 : Int32)) rfl (n := 24) rfl ?_
  refine o_callS X3 hx hZ hown (hw _ (List.mem_of_getElem? (i := 190) rfl)) (hw _ (List.mem_of_getElem? (i := 191) rfl)) (hw _ (List.mem_of_getElem? (i := 192) rfl)) (hw _ (List.mem_of_getElem? (i := 193) rfl)) (by decide) e3 (argsL := [(.int (16 : Int32)), (.int (4 : Int32))]) (rest := [(.int (0 : Int32)), (.ref b3), (.int (0 : Int32)), (.ref r)]) (c_min4 l Z a0 hw h3) 4 (by decide) (by decide) (by decide) (by decide) (by rw [hml]; rfl) (lenOf o_pd17 rfl) rfl (Nat.le_of_eq rfl) (hb hby d_jdk_65_method_133_code_24) (n := 27) rfl ?_
  intro v8 T8 L8 X8 q8
  obtain ⟨rfl, e8, rfl⟩ := q8
  have N9 := Fr.app N2 (Fr.nil n0)
  show Goes _ _ p e below s _ _ _ (T8.setTop (mkF m 27 #[.val (.ref r), .val (.int (0 : Int32)), .val (.int (4 : Int32)), .val (.int (4 : Int32)), .val (.ref b3)] [(.int (4 : Int32)), (.int (0 : Int32)), (.ref b3), (.int (0 : Int32)), (.ref r)]))
  refine o_acopy X8 hx hZ hown (hw _ (List.mem_of_getElem? (i := 194) rfl)) (hw _ (List.mem_of_getElem? (i := 146) rfl)) (hw _ (List.mem_of_getElem? (i := 144) rfl)) (hw _ (List.mem_of_getElem? (i := 145) rfl)) e8 f5 f7 (Or.inl ⟨rfl, rfl⟩) ⟨by decide, by decide, by decide, by decide, by decide, rfl, (show (0 : Int32).toNatClampNeg + (4 : Int32).toNatClampNeg ≤ 4 by decide)⟩ N9 gg3 (by rw [hml]; rfl) (hb hby d_jdk_65_method_133_code_27) (by decide) 0 (Nat.le_of_eq rfl) (by decide) (n := 30) rfl ?_
  intro T10 h10 L10 X10 e10 N10 K10 V10
  have f11 := f5.keep K10 (ninS ne4 nin0)
  have f12 : Arv Z h10 b3 k3 .byte (4 : Int32) [(.int d0), (.int d1), (.int d2), (.int d3)] (.int (0 : Int32)) := V10.pad (fun i => rfl)
  have zz10 : n0 ≤ h10.size := Nat.le_trans zz3 K10.1
  have K13 : Keep h0 h10 [] := K6.trans K10 (allS (P := fun x => x ∈ [] ∨ h0.size ≤ x) (Or.inr sz3) all0)
  show Goes _ _ p e below s _ _ _ (T10.setTop (mkF m 30 #[.val (.ref r), .val (.int (0 : Int32)), .val (.int (4 : Int32)), .val (.int (4 : Int32)), .val (.ref b3)] []))
  refine o_aload X10 hx (hb hby d_jdk_65_method_133_code_30) (v := (.ref b3)) rfl rfl (n := 32) rfl ?_
  exact o_areturn X10 hx hret hlk rfl rfl (hb hby d_jdk_65_method_133_code_32) (by decide) (by decide) e10 ⟨b3, k3, rfl, N10, K13, sz3, f12⟩
theorem o_ef59 (m : MethodId) (r : Addr) : entryFrame m #[(.ref r), (.int (0 : Int32)), (.int (4 : Int32))] 3 = mkF m 0 #[.val (.ref r), .val (.int (0 : Int32)), .val (.int (4 : Int32))] [] := by first | (simp [entryFrame, mkF, argsToLocals, Value.category]; done) | rfl
set_option maxRecDepth 65536 in
set_option maxHeartbeats 40000000 in
theorem c_cr4 (l : Launch) (Z : State) (a0 : Array Value) (hw : ∀ d ∈ tables_1, d.before a0 Z = true) (r : Addr) (kr : ClassId) (d0 : Int32) (d1 : Int32) (d2 : Int32) (d3 : Int32) (h0 : Heap) (n0 : Nat) (Z0 : n0 ≤ h0.size) (pV_r : Arv Z h0 r kr .byte (16 : Int32) [(.int d0), (.int d1), (.int d2), (.int d3), (.int (0 : Int32)), (.int (0 : Int32)), (.int (0 : Int32)), (.int (0 : Int32)), (.int (0 : Int32)), (.int (0 : Int32)), (.int (0 : Int32)), (.int (0 : Int32)), (.int (0 : Int32)), (.int (0 : Int32)), (.int (0 : Int32)), (.int (0 : Int32))] (.int (0 : Int32))) :
    Does l Z (⟨"java/util/Arrays", "copyOfRange", "([BII)[B"⟩ : MethodName) jdk_65_method_132_code 3 (some (.array .byte)) [] ({ frames := 2, cells := 1, slots := 4, locals := 34 } : Room) #[(.ref r), (.int (0 : Int32)), (.int (4 : Int32))] h0 (fun v h L => ∃ (n1 : Addr) (kn : ClassId), v = some (.ref n1) ∧ Fr n0 L ∧ Keep h0 h [] ∧ h0.size ≤ n1 ∧ Arv Z h n1 kn .byte (4 : Int32) [(.int d0), (.int d1), (.int d2), (.int d3)] (.int (0 : Int32))) := by
  refine Does.of (plainFor_of_name o_pn8) ?_
  intro p e s m below meth c T0 hx hby hml hown hnm hret hlk hZ X0 e0
  have hown : s.vm.findClass "java/util/Arrays" = some m.cls := hown
  have hml : c.maxLocals = 3 := hml
  have hret : meth.sig.returnType = some (.array .byte) := hret
  refine o_entry (o_ef59 m r) ?_
  have N0 := Fr.nil n0
  refine o_iloadN X0 hx (hb hby d_jdk_65_method_132_code_0) (v := (0 : Int32)) rfl (n := 1) rfl ?_
  refine o_ifN X0 hx (hb hby d_jdk_65_method_132_code_1) (XT.i0_ne_f (by decide)) (n := 4) rfl ?_
  refine o_iloadN X0 hx (hb hby d_jdk_65_method_132_code_4) (v := (4 : Int32)) rfl (n := 5) rfl ?_
  refine o_aloadN X0 hx (hb hby d_jdk_65_method_132_code_5) (v := (.ref r)) rfl rfl (n := 6) rfl ?_
  refine o_arraylength X0 hx hZ e0 pV_r (hb hby d_jdk_65_method_132_code_6) (n := 7) rfl ?_
  refine o_icmpN X0 hx (hb hby d_jdk_65_method_132_code_7) (XT.ii_eq_f (by decide)) (n := 10) rfl ?_
  refine o_aloadN X0 hx (hb hby d_jdk_65_method_132_code_10) (v := (.ref r)) rfl rfl (n := 11) rfl ?_
  refine o_iloadN X0 hx (hb hby d_jdk_65_method_132_code_11) (v := (0 : Int32)) rfl (n := 12) rfl ?_
  refine o_iloadN X0 hx (hb hby d_jdk_65_method_132_code_12) (v := (4 : Int32)) rfl (n := 13) rfl ?_
  refine o_callS X0 hx hZ hown (hw _ (List.mem_of_getElem? (i := 184) rfl)) (hw _ (List.mem_of_getElem? (i := 185) rfl)) (hw _ (List.mem_of_getElem? (i := 182) rfl)) (hw _ (List.mem_of_getElem? (i := 186) rfl)) (by decide) e0 (argsL := [(.ref r), (.int (0 : Int32)), (.int (4 : Int32))]) (rest := []) (c_crb4 l Z a0 hw r kr d0 d1 d2 d3 h0 n0 Z0 pV_r) 0 (by decide) (by decide) (by decide) (by decide) (by rw [hml]; rfl) (lenOf o_pd18 rfl) rfl (Nat.le_of_eq rfl) (hb hby d_jdk_65_method_132_code_13) (n := 16) rfl ?_
  intro v1 T1 L1 X1 q1
  obtain ⟨n1_1, kn_1, rfl, Nq1, K1, sq1_n1, o1_0⟩ := q1
  have N2 := Fr.app N0 Nq1
  have ne3 : r ≠ n1_1 := Nat.ne_of_lt (Nat.lt_of_lt_of_le pV_r.lt sq1_n1)
  have gg1_n1 : n0 ≤ n1_1 := Nat.le_trans Z0 sq1_n1
  have sz1_n1 : h0.size ≤ n1_1 := Nat.le_trans (Keep.refl h0 []).1 sq1_n1
  have f4 := pV_r.keep K1 nin0
  have zz1 : n0 ≤ T1.heap.size := Nat.le_trans Z0 K1.1
  have K5 : Keep h0 T1.heap [] := (Keep.refl h0 []).trans K1 all0
  show Goes _ _ p e below s _ _ _ (T1.setTop (mkF m 16 #[.val (.ref r), .val (.int (0 : Int32)), .val (.int (4 : Int32))] [(.ref n1_1)]))
  exact o_areturn X1 hx hret hlk rfl rfl (hb hby d_jdk_65_method_132_code_16) (by decide) (by decide) (rfl : T1.heap = T1.heap) ⟨n1_1, kn_1, rfl, N2, K5, sz1_n1, o1_0⟩
theorem o_ef60 (m : MethodId) (r : Addr) : entryFrame m #[(.ref r), (.int (0 : Int32)), (.int (5 : Int32))] 5 = mkF m 0 #[.val (.ref r), .val (.int (0 : Int32)), .val (.int (5 : Int32)), .unset, .unset] [] := by first | (simp [entryFrame, mkF, argsToLocals, Value.category]; done) | rfl
set_option maxRecDepth 65536 in
set_option maxHeartbeats 40000000 in
theorem c_crb5 (l : Launch) (Z : State) (a0 : Array Value) (hw : ∀ d ∈ tables_1, d.before a0 Z = true) (r : Addr) (kr : ClassId) (d0 : Int32) (d1 : Int32) (d2 : Int32) (d3 : Int32) (d4 : Int32) (h0 : Heap) (n0 : Nat) (Z0 : n0 ≤ h0.size) (pV_r : Arv Z h0 r kr .byte (16 : Int32) [(.int d0), (.int d1), (.int d2), (.int d3), (.int d4), (.int (0 : Int32)), (.int (0 : Int32)), (.int (0 : Int32)), (.int (0 : Int32)), (.int (0 : Int32)), (.int (0 : Int32)), (.int (0 : Int32)), (.int (0 : Int32)), (.int (0 : Int32)), (.int (0 : Int32)), (.int (0 : Int32))] (.int (0 : Int32))) :
    Does l Z (⟨"java/util/Arrays", "copyOfRangeByte", "([BII)[B"⟩ : MethodName) jdk_65_method_133_code 5 (some (.array .byte)) [] ({ frames := 1, cells := 1, slots := 5, locals := 18 } : Room) #[(.ref r), (.int (0 : Int32)), (.int (5 : Int32))] h0 (fun v h L => ∃ (n1 : Addr) (kn : ClassId), v = some (.ref n1) ∧ Fr n0 L ∧ Keep h0 h [] ∧ h0.size ≤ n1 ∧ Arv Z h n1 kn .byte (5 : Int32) [(.int d0), (.int d1), (.int d2), (.int d3), (.int d4)] (.int (0 : Int32))) := by
  refine Does.of (plainFor_of_name o_pn8) ?_
  intro p e s m below meth c T0 hx hby hml hown hnm hret hlk hZ X0 e0
  have hown : s.vm.findClass "java/util/Arrays" = some m.cls := hown
  have hml : c.maxLocals = 5 := hml
  have hret : meth.sig.returnType = some (.array .byte) := hret
  refine o_entry (o_ef60 m r) ?_
  have N0 := Fr.nil n0
  refine o_iloadN X0 hx (hb hby d_jdk_65_method_133_code_0) (v := (0 : Int32)) rfl (n := 1) rfl ?_
  refine o_iloadN X0 hx (hb hby d_jdk_65_method_133_code_1) (v := (5 : Int32)) rfl (n := 2) rfl ?_
  refine o_callS X0 hx hZ hown (hw _ (List.mem_of_getElem? (i := 187) rfl)) (hw _ (List.mem_of_getElem? (i := 188) rfl)) (hw _ (List.mem_of_getElem? (i := 182) rfl)) (hw _ (List.mem_of_getElem? (i := 189) rfl)) (by decide) e0 (argsL := [(.int (0 : Int32)), (.int (5 : Int32))]) (rest := []) (c_chk5 l Z a0 hw h0) 0 (by decide) (by decide) (by decide) (by decide) (by rw [hml]; rfl) (lenOf o_pd16 rfl) rfl (Nat.le_of_eq rfl) (hb hby d_jdk_65_method_133_code_2) (n := 5) rfl ?_
  intro v1 T1 L1 X1 q1
  obtain ⟨rfl, e1, rfl⟩ := q1
  have N2 := Fr.app N0 (Fr.nil n0)
  show Goes _ _ p e below s _ _ _ (T1.setTop (mkF m 5 #[.val (.ref r), .val (.int (0 : Int32)), .val (.int (5 : Int32)), .unset, .unset] []))
  refine o_iloadN X1 hx (hb hby d_jdk_65_method_133_code_5) (v := (5 : Int32)) rfl (n := 6) rfl ?_
  refine o_iloadN X1 hx (hb hby d_jdk_65_method_133_code_6) (v := (0 : Int32)) rfl (n := 7) rfl ?_
  refine o_isub X1 hx (hb hby d_jdk_65_method_133_code_7) (v := (5 : Int32)) (by decide) (n := 8) rfl ?_
  refine o_istoreN X1 hx (hb hby d_jdk_65_method_133_code_8) (Ls' := #[.val (.ref r), .val (.int (0 : Int32)), .val (.int (5 : Int32)), .val (.int (5 : Int32)), .unset]) rfl (n := 9) rfl ?_
  refine o_iloadN X1 hx (hb hby d_jdk_65_method_133_code_9) (v := (5 : Int32)) rfl (n := 10) rfl ?_
  refine o_newarray X1 hx hZ (aty := .byte) (hw _ (List.mem_of_getElem? (i := 19) rfl)) e1 (hb hby d_jdk_65_method_133_code_10) (by decide) 5 (by decide) (by decide) (by decide) (by decide) (n := 12) rfl ?_
  intro T3 h3 b3 k3 X3 e3 g3 E3 V3
  have ne4 : r ≠ b3 := Nat.ne_of_lt (Nat.lt_of_lt_of_eq pV_r.lt g3.symm)
  have gg3 : n0 ≤ b3 := Nat.le_trans Z0 (Nat.le_of_eq g3.symm)
  have zz3 : n0 ≤ h3.size := Nat.le_trans Z0 E3.1
  have sz3 : h0.size ≤ b3 := Nat.le_trans (Keep.refl h0 []).1 (Nat.le_of_eq g3.symm)
  have f5 := pV_r.ext E3
  have K6 : Keep h0 h3 [] := (Keep.refl h0 []).ext E3
  have f7 : Arv Z h3 b3 k3 .byte (5 : Int32) [(.int (0 : Int32)), (.int (0 : Int32)), (.int (0 : Int32)), (.int (0 : Int32)), (.int (0 : Int32))] (.int (0 : Int32)) := V3.pad (pad_rep [] (.int (0 : Int32)) 5)
  refine o_astore X3 hx (hb hby d_jdk_65_method_133_code_12) rfl (Ls' := #[.val (.ref r), .val (.int (0 : Int32)), .val (.int (5 : Int32)), .val (.int (5 : Int32)), .val (.ref b3)]) rfl (n := 14) rfl ?_
  refine o_aloadN X3 hx (hb hby d_jdk_65_method_133_code_14) (v := (.ref r)) rfl rfl (n := 15) rfl ?_
  refine o_iloadN X3 hx (hb hby d_jdk_65_method_133_code_15) (v := (0 : Int32)) rfl (n := 16) rfl ?_
  refine o_aload X3 hx (hb hby d_jdk_65_method_133_code_16) (v := (.ref b3)) rfl rfl (n := 18) rfl ?_
  refine o_iconst X3 hx (hb hby d_jdk_65_method_133_code_18) (v := (0 : Int32)) rfl (n := 19) rfl ?_
  refine o_aloadN X3 hx (hb hby d_jdk_65_method_133_code_19) (v := (.ref r)) rfl rfl (n := 20) rfl ?_
  refine o_arraylength X3 hx hZ e3 f5 (hb hby d_jdk_65_method_133_code_20) (n := 21) rfl ?_
  refine o_iloadN X3 hx (hb hby d_jdk_65_method_133_code_21) (v := (0 : Int32)) rfl (n := 22) rfl ?_
  refine o_isub X3 hx (hb hby d_jdk_65_method_133_code_22) (v := (16 : Int32)) (by decide) (n := 23) rfl ?_
  refine o_iloadN X3 hx (hb hby d_jdk_65_method_133_code_23) (v := (5 : Int32)) rfl (n := 24) rfl ?_
  refine o_callS X3 hx hZ hown (hw _ (List.mem_of_getElem? (i := 190) rfl)) (hw _ (List.mem_of_getElem? (i := 191) rfl)) (hw _ (List.mem_of_getElem? (i := 192) rfl)) (hw _ (List.mem_of_getElem? (i := 193) rfl)) (by decide) e3 (argsL := [(.int (16 : Int32)), (.int (5 : Int32))]) (rest := [(.int (0 : Int32)), (.ref b3), (.int (0 : Int32)), (.ref r)]) (c_min5 l Z a0 hw h3) 4 (by decide) (by decide) (by decide) (by decide) (by rw [hml]; rfl) (lenOf o_pd17 rfl) rfl (Nat.le_of_eq rfl) (hb hby d_jdk_65_method_133_code_24) (n := 27) rfl ?_
  intro v8 T8 L8 X8 q8
  obtain ⟨rfl, e8, rfl⟩ := q8
  have N9 := Fr.app N2 (Fr.nil n0)
  show Goes _ _ p e below s _ _ _ (T8.setTop (mkF m 27 #[.val (.ref r), .val (.int (0 : Int32)), .val (.int (5 : Int32)), .val (.int (5 : Int32)), .val (.ref b3)] [(.int (5 : Int32)), (.int (0 : Int32)), (.ref b3), (.int (0 : Int32)), (.ref r)]))
  refine o_acopy X8 hx hZ hown (hw _ (List.mem_of_getElem? (i := 194) rfl)) (hw _ (List.mem_of_getElem? (i := 146) rfl)) (hw _ (List.mem_of_getElem? (i := 144) rfl)) (hw _ (List.mem_of_getElem? (i := 145) rfl)) e8 f5 f7 (Or.inl ⟨rfl, rfl⟩) ⟨by decide, by decide, by decide, by decide, by decide, rfl, (show (0 : Int32).toNatClampNeg + (5 : Int32).toNatClampNeg ≤ 5 by decide)⟩ N9 gg3 (by rw [hml]; rfl) (hb hby d_jdk_65_method_133_code_27) (by decide) 0 (Nat.le_of_eq rfl) (by decide) (n := 30) rfl ?_
  intro T10 h10 L10 X10 e10 N10 K10 V10
  have f11 := f5.keep K10 (ninS ne4 nin0)
  have f12 : Arv Z h10 b3 k3 .byte (5 : Int32) [(.int d0), (.int d1), (.int d2), (.int d3), (.int d4)] (.int (0 : Int32)) := V10.pad (fun i => rfl)
  have zz10 : n0 ≤ h10.size := Nat.le_trans zz3 K10.1
  have K13 : Keep h0 h10 [] := K6.trans K10 (allS (P := fun x => x ∈ [] ∨ h0.size ≤ x) (Or.inr sz3) all0)
  show Goes _ _ p e below s _ _ _ (T10.setTop (mkF m 30 #[.val (.ref r), .val (.int (0 : Int32)), .val (.int (5 : Int32)), .val (.int (5 : Int32)), .val (.ref b3)] []))
  refine o_aload X10 hx (hb hby d_jdk_65_method_133_code_30) (v := (.ref b3)) rfl rfl (n := 32) rfl ?_
  exact o_areturn X10 hx hret hlk rfl rfl (hb hby d_jdk_65_method_133_code_32) (by decide) (by decide) e10 ⟨b3, k3, rfl, N10, K13, sz3, f12⟩
theorem o_ef61 (m : MethodId) (r : Addr) : entryFrame m #[(.ref r), (.int (0 : Int32)), (.int (5 : Int32))] 3 = mkF m 0 #[.val (.ref r), .val (.int (0 : Int32)), .val (.int (5 : Int32))] [] := by first | (simp [entryFrame, mkF, argsToLocals, Value.category]; done) | rfl
set_option maxRecDepth 65536 in
set_option maxHeartbeats 40000000 in
theorem c_cr5 (l : Launch) (Z : State) (a0 : Array Value) (hw : ∀ d ∈ tables_1, d.before a0 Z = true) (r : Addr) (kr : ClassId) (d0 : Int32) (d1 : Int32) (d2 : Int32) (d3 : Int32) (d4 : Int32) (h0 : Heap) (n0 : Nat) (Z0 : n0 ≤ h0.size) (pV_r : Arv Z h0 r kr .byte (16 : Int32) [(.int d0), (.int d1), (.int d2), (.int d3), (.int d4), (.int (0 : Int32)), (.int (0 : Int32)), (.int (0 : Int32)), (.int (0 : Int32)), (.int (0 : Int32)), (.int (0 : Int32)), (.int (0 : Int32)), (.int (0 : Int32)), (.int (0 : Int32)), (.int (0 : Int32)), (.int (0 : Int32))] (.int (0 : Int32))) :
    Does l Z (⟨"java/util/Arrays", "copyOfRange", "([BII)[B"⟩ : MethodName) jdk_65_method_132_code 3 (some (.array .byte)) [] ({ frames := 2, cells := 1, slots := 5, locals := 34 } : Room) #[(.ref r), (.int (0 : Int32)), (.int (5 : Int32))] h0 (fun v h L => ∃ (n1 : Addr) (kn : ClassId), v = some (.ref n1) ∧ Fr n0 L ∧ Keep h0 h [] ∧ h0.size ≤ n1 ∧ Arv Z h n1 kn .byte (5 : Int32) [(.int d0), (.int d1), (.int d2), (.int d3), (.int d4)] (.int (0 : Int32))) := by
  refine Does.of (plainFor_of_name o_pn8) ?_
  intro p e s m below meth c T0 hx hby hml hown hnm hret hlk hZ X0 e0
  have hown : s.vm.findClass "java/util/Arrays" = some m.cls := hown
  have hml : c.maxLocals = 3 := hml
  have hret : meth.sig.returnType = some (.array .byte) := hret
  refine o_entry (o_ef61 m r) ?_
  have N0 := Fr.nil n0
  refine o_iloadN X0 hx (hb hby d_jdk_65_method_132_code_0) (v := (0 : Int32)) rfl (n := 1) rfl ?_
  refine o_ifN X0 hx (hb hby d_jdk_65_method_132_code_1) (XT.i0_ne_f (by decide)) (n := 4) rfl ?_
  refine o_iloadN X0 hx (hb hby d_jdk_65_method_132_code_4) (v := (5 : Int32)) rfl (n := 5) rfl ?_
  refine o_aloadN X0 hx (hb hby d_jdk_65_method_132_code_5) (v := (.ref r)) rfl rfl (n := 6) rfl ?_
  refine o_arraylength X0 hx hZ e0 pV_r (hb hby d_jdk_65_method_132_code_6) (n := 7) rfl ?_
  refine o_icmpN X0 hx (hb hby d_jdk_65_method_132_code_7) (XT.ii_eq_f (by decide)) (n := 10) rfl ?_
  refine o_aloadN X0 hx (hb hby d_jdk_65_method_132_code_10) (v := (.ref r)) rfl rfl (n := 11) rfl ?_
  refine o_iloadN X0 hx (hb hby d_jdk_65_method_132_code_11) (v := (0 : Int32)) rfl (n := 12) rfl ?_
  refine o_iloadN X0 hx (hb hby d_jdk_65_method_132_code_12) (v := (5 : Int32)) rfl (n := 13) rfl ?_
  refine o_callS X0 hx hZ hown (hw _ (List.mem_of_getElem? (i := 184) rfl)) (hw _ (List.mem_of_getElem? (i := 185) rfl)) (hw _ (List.mem_of_getElem? (i := 182) rfl)) (hw _ (List.mem_of_getElem? (i := 186) rfl)) (by decide) e0 (argsL := [(.ref r), (.int (0 : Int32)), (.int (5 : Int32))]) (rest := []) (c_crb5 l Z a0 hw r kr d0 d1 d2 d3 d4 h0 n0 Z0 pV_r) 0 (by decide) (by decide) (by decide) (by decide) (by rw [hml]; rfl) (lenOf o_pd18 rfl) rfl (Nat.le_of_eq rfl) (hb hby d_jdk_65_method_132_code_13) (n := 16) rfl ?_
  intro v1 T1 L1 X1 q1
  obtain ⟨n1_1, kn_1, rfl, Nq1, K1, sq1_n1, o1_0⟩ := q1
  have N2 := Fr.app N0 Nq1
  have ne3 : r ≠ n1_1 := Nat.ne_of_lt (Nat.lt_of_lt_of_le pV_r.lt sq1_n1)
  have gg1_n1 : n0 ≤ n1_1 := Nat.le_trans Z0 sq1_n1
  have sz1_n1 : h0.size ≤ n1_1 := Nat.le_trans (Keep.refl h0 []).1 sq1_n1
  have f4 := pV_r.keep K1 nin0
  have zz1 : n0 ≤ T1.heap.size := Nat.le_trans Z0 K1.1
  have K5 : Keep h0 T1.heap [] := (Keep.refl h0 []).trans K1 all0
  show Goes _ _ p e below s _ _ _ (T1.setTop (mkF m 16 #[.val (.ref r), .val (.int (0 : Int32)), .val (.int (5 : Int32))] [(.ref n1_1)]))
  exact o_areturn X1 hx hret hlk rfl rfl (hb hby d_jdk_65_method_132_code_16) (by decide) (by decide) (rfl : T1.heap = T1.heap) ⟨n1_1, kn_1, rfl, N2, K5, sz1_n1, o1_0⟩
theorem d_jdk_68_method_64_code_0 : decode jdk_68_method_64_code 0 = .ok (.aload_n 0, 1) := by decide +kernel
theorem d_jdk_68_method_64_code_1 : decode jdk_68_method_64_code 1 = .ok (.getfield 15, 3) := by decide +kernel
theorem d_jdk_68_method_64_code_4 : decode jdk_68_method_64_code 4 = .ok (.areturn, 1) := by decide +kernel
theorem o_ef62 (m : MethodId) (a1 : Addr) : entryFrame m #[(.ref a1)] 1 = mkF m 0 #[.val (.ref a1)] [] := by first | (simp [entryFrame, mkF, argsToLocals, Value.category]; done) | rfl
set_option maxRecDepth 65536 in
set_option maxHeartbeats 40000000 in
theorem c_gv (l : Launch) (Z : State) (a0 : Array Value) (hw : ∀ d ∈ tables_1, d.before a0 Z = true) (a1 : Addr) (r : Addr) (h0 : Heap) (pF_a1_value : Fld Z h0 a1 "java/lang/AbstractStringBuilder" "value" "[B" (.ref r)) :
    Does l Z (⟨"java/lang/AbstractStringBuilder", "getValue", "()[B"⟩ : MethodName) jdk_68_method_64_code 1 (some (.array .byte)) [] ({ frames := 0, cells := 0, slots := 0, locals := 0 } : Room) #[(.ref a1)] h0 (Pur h0 (.ref r)) := by
  refine Does.of (plainFor_of_name o_pn6) ?_
  intro p e s m below meth c T0 hx hby hml hown hnm hret hlk hZ X0 e0
  have hown : s.vm.findClass "java/lang/AbstractStringBuilder" = some m.cls := hown
  have hml : c.maxLocals = 1 := hml
  have hret : meth.sig.returnType = some (.array .byte) := hret
  refine o_entry (o_ef62 m a1) ?_
  refine o_aloadN X0 hx (hb hby d_jdk_68_method_64_code_0) (v := (.ref a1)) rfl rfl (n := 1) rfl ?_
  refine o_getfield X0 hx hZ hown (host := "") (Or.inl (hw _ (List.mem_of_getElem? (i := 96) rfl))) Via.refl e0 pF_a1_value (hb hby d_jdk_68_method_64_code_1) (n := 4) rfl ?_
  intro T1 X1 e1
  exact o_areturn X1 hx hret hlk rfl rfl (hb hby d_jdk_68_method_64_code_4) (by decide) (by decide) e1 ⟨rfl, rfl, rfl⟩
theorem d_jdk_68_method_68_code_0 : decode jdk_68_method_68_code 0 = .ok (.getstatic 18, 3) := by decide +kernel
theorem d_jdk_68_method_68_code_3 : decode jdk_68_method_68_code 3 = .ok (.ifCond .eq 14, 3) := by decide +kernel
theorem d_jdk_68_method_68_code_6 : decode jdk_68_method_68_code 6 = .ok (.aload_n 0, 1) := by decide +kernel
theorem d_jdk_68_method_68_code_7 : decode jdk_68_method_68_code 7 = .ok (.getfield 22, 3) := by decide +kernel
theorem d_jdk_68_method_68_code_10 : decode jdk_68_method_68_code 10 = .ok (.ifCond .ne 7, 3) := by decide +kernel
theorem d_jdk_68_method_68_code_13 : decode jdk_68_method_68_code 13 = .ok (.iconst 1, 1) := by decide +kernel
theorem d_jdk_68_method_68_code_14 : decode jdk_68_method_68_code 14 = .ok (.goto 4, 3) := by decide +kernel
theorem d_jdk_68_method_68_code_18 : decode jdk_68_method_68_code 18 = .ok (.ireturn, 1) := by decide +kernel
theorem o_ef63 (m : MethodId) (a1 : Addr) : entryFrame m #[(.ref a1)] 1 = mkF m 0 #[.val (.ref a1)] [] := by first | (simp [entryFrame, mkF, argsToLocals, Value.category]; done) | rfl
set_option maxRecDepth 65536 in
set_option maxHeartbeats 40000000 in
theorem c_isl (l : Launch) (Z : State) (a0 : Array Value) (hw : ∀ d ∈ tables_1, d.before a0 Z = true) (a1 : Addr) (cs : Int32) (h0 : Heap) (pF_a1_coder : Fld Z h0 a1 "java/lang/AbstractStringBuilder" "coder" "B" (.int (0 : Int32))) (pS_COMPACT_STRINGS : Sta Z h0 "java/lang/String" "COMPACT_STRINGS" "Z" (.int cs)) (hcs : ¬ cs = (0 : Int32)) :
    Does l Z (⟨"java/lang/AbstractStringBuilder", "isLatin1", "()Z"⟩ : MethodName) jdk_68_method_68_code 1 (some .boolean) [] ({ frames := 0, cells := 0, slots := 0, locals := 0 } : Room) #[(.ref a1)] h0 (Pur h0 (.int (1 : Int32))) := by
  refine Does.of (plainFor_of_name o_pn6) ?_
  intro p e s m below meth c T0 hx hby hml hown hnm hret hlk hZ X0 e0
  have hown : s.vm.findClass "java/lang/AbstractStringBuilder" = some m.cls := hown
  have hml : c.maxLocals = 1 := hml
  have hret : meth.sig.returnType = some .boolean := hret
  refine o_entry (o_ef63 m a1) ?_
  refine o_getstatic X0 hx hZ hown (host := "") (Or.inl (hw _ (List.mem_of_getElem? (i := 95) rfl))) Via.refl e0 pS_COMPACT_STRINGS (hb hby d_jdk_68_method_68_code_0) (n := 3) rfl ?_
  intro T1 X1 e1
  refine o_ifN X1 hx (hb hby d_jdk_68_method_68_code_3) (XT.i0_eq_f hcs) (n := 6) rfl ?_
  refine o_aloadN X1 hx (hb hby d_jdk_68_method_68_code_6) (v := (.ref a1)) rfl rfl (n := 7) rfl ?_
  refine o_getfield X1 hx hZ hown (host := "") (Or.inl (hw _ (List.mem_of_getElem? (i := 98) rfl))) Via.refl e1 pF_a1_coder (hb hby d_jdk_68_method_68_code_7) (n := 10) rfl ?_
  intro T2 X2 e2
  refine o_ifN X2 hx (hb hby d_jdk_68_method_68_code_10) (XT.i0_ne_f (by decide)) (n := 13) rfl ?_
  refine o_iconst X2 hx (hb hby d_jdk_68_method_68_code_13) (v := (1 : Int32)) rfl (n := 14) rfl ?_
  refine o_goto X2 hx (hb hby d_jdk_68_method_68_code_14) (by decide) (n := 18) (by decide) ?_
  exact o_nreturn X2 hx hret hlk (t := .boolean) (by simp) (hb hby d_jdk_68_method_68_code_18) (by decide) (by decide) e2 ⟨rfl, rfl, rfl⟩
theorem d_jdk_68_method_6_code_0 : decode jdk_68_method_6_code 0 = .ok (.aload_n 0, 1) := by decide +kernel
theorem d_jdk_68_method_6_code_1 : decode jdk_68_method_6_code 1 = .ok (.getfield 79, 3) := by decide +kernel
theorem d_jdk_68_method_6_code_4 : decode jdk_68_method_6_code 4 = .ok (.ireturn, 1) := by decide +kernel
theorem o_ef64 (m : MethodId) (a1 : Addr) : entryFrame m #[(.ref a1)] 1 = mkF m 0 #[.val (.ref a1)] [] := by first | (simp [entryFrame, mkF, argsToLocals, Value.category]; done) | rfl
set_option maxRecDepth 65536 in
set_option maxHeartbeats 40000000 in
theorem c_abl (l : Launch) (Z : State) (a0 : Array Value) (hw : ∀ d ∈ tables_1, d.before a0 Z = true) (a1 : Addr) (t : Int32) (h0 : Heap) (pF_a1_count : Fld Z h0 a1 "java/lang/AbstractStringBuilder" "count" "I" (.int t)) :
    Does l Z (⟨"java/lang/AbstractStringBuilder", "length", "()I"⟩ : MethodName) jdk_68_method_6_code 1 (some .int) [] ({ frames := 0, cells := 0, slots := 0, locals := 0 } : Room) #[(.ref a1)] h0 (Pur h0 (.int t)) := by
  refine Does.of (plainFor_of_name o_pn6) ?_
  intro p e s m below meth c T0 hx hby hml hown hnm hret hlk hZ X0 e0
  have hown : s.vm.findClass "java/lang/AbstractStringBuilder" = some m.cls := hown
  have hml : c.maxLocals = 1 := hml
  have hret : meth.sig.returnType = some .int := hret
  refine o_entry (o_ef64 m a1) ?_
  refine o_aloadN X0 hx (hb hby d_jdk_68_method_6_code_0) (v := (.ref a1)) rfl rfl (n := 1) rfl ?_
  refine o_getfield X0 hx hZ hown (host := "") (Or.inl (hw _ (List.mem_of_getElem? (i := 120) rfl))) Via.refl e0 pF_a1_count (hb hby d_jdk_68_method_6_code_1) (n := 4) rfl ?_
  intro T1 X1 e1
  exact o_ireturn X1 hx hret hlk (hb hby d_jdk_68_method_6_code_4) (by decide) (by decide) e1 ⟨rfl, rfl, rfl⟩
theorem d_jdk_67_method_93_code_0 : decode jdk_67_method_93_code 0 = .ok (.aload_n 0, 1) := by decide +kernel
theorem d_jdk_67_method_93_code_1 : decode jdk_67_method_93_code 1 = .ok (.invokespecial 343, 3) := by decide +kernel
theorem d_jdk_67_method_93_code_4 : decode jdk_67_method_93_code 4 = .ok (.ireturn, 1) := by decide +kernel
theorem o_ef65 (m : MethodId) (a1 : Addr) : entryFrame m #[(.ref a1)] 1 = mkF m 0 #[.val (.ref a1)] [] := by first | (simp [entryFrame, mkF, argsToLocals, Value.category]; done) | rfl
set_option maxRecDepth 65536 in
set_option maxHeartbeats 40000000 in
theorem c_sbl (l : Launch) (Z : State) (a0 : Array Value) (hw : ∀ d ∈ tables_1, d.before a0 Z = true) (a1 : Addr) (t : Int32) (h0 : Heap) (pE_a1 : Exa Z h0 a1 "java/lang/StringBuilder") (pF_a1_count : Fld Z h0 a1 "java/lang/AbstractStringBuilder" "count" "I" (.int t)) :
    Does l Z (⟨"java/lang/StringBuilder", "length", "()I"⟩ : MethodName) jdk_67_method_93_code 1 (some .int) [] ({ frames := 1, cells := 0, slots := 0, locals := 12 } : Room) #[(.ref a1)] h0 (Pur h0 (.int t)) := by
  refine Does.of (plainFor_of_name o_pn7) ?_
  intro p e s m below meth c T0 hx hby hml hown hnm hret hlk hZ X0 e0
  have hown : s.vm.findClass "java/lang/StringBuilder" = some m.cls := hown
  have hml : c.maxLocals = 1 := hml
  have hret : meth.sig.returnType = some .int := hret
  refine o_entry (o_ef65 m a1) ?_
  refine o_aloadN X0 hx (hb hby d_jdk_67_method_93_code_0) (v := (.ref a1)) rfl rfl (n := 1) rfl ?_
  refine o_super X0 hx hZ hown (hw _ (List.mem_of_getElem? (i := 173) rfl)) (o_same (y := ({ cls := "java/lang/AbstractStringBuilder", name := "getValue", desc := "()[B" } : Jvm.MethodName)) (z := ({ cls := "java/lang/AbstractStringBuilder", name := "getValue", desc := "()[B" } : Jvm.MethodName)) (w := ({ cls := "java/lang/AbstractStringBuilder", name := "length", desc := "()I" } : Jvm.MethodName)) (hw _ (List.mem_of_getElem? (i := 165) rfl)) rfl rfl (by decide) (hw _ (List.mem_of_getElem? (i := 169) rfl))) (hw _ (List.mem_of_getElem? (i := 169) rfl)) (hw _ (List.mem_of_getElem? (i := 107) rfl)) (by decide) (hw _ (List.mem_of_getElem? (i := 92) rfl)) (hw _ (List.mem_of_getElem? (i := 174) rfl)) e0 pE_a1 (argsL := []) (rest := []) (c_abl l Z a0 hw a1 t h0 pF_a1_count) 0 (by decide) (by decide) (by decide) (by decide) (by rw [hml]; rfl) (lenOf o_pd13 rfl) rfl (Nat.le_of_eq rfl) (hb hby d_jdk_67_method_93_code_1) (n := 4) rfl ?_
  intro v1 T1 L1 X1 q1
  obtain ⟨rfl, e1, rfl⟩ := q1
  show Goes _ _ p e below s _ _ _ (T1.setTop (mkF m 4 #[.val (.ref a1)] [(.int t)]))
  exact o_ireturn X1 hx hret hlk (hb hby d_jdk_67_method_93_code_4) (by decide) (by decide) e1 ⟨rfl, rfl, rfl⟩
theorem d_jdk_42_method_150_code_0 : decode jdk_42_method_150_code 0 = .ok (.aload_n 0, 1) := by decide +kernel
theorem d_jdk_42_method_150_code_1 : decode jdk_42_method_150_code 1 = .ok (.invokespecial 1, 3) := by decide +kernel
theorem d_jdk_42_method_150_code_4 : decode jdk_42_method_150_code 4 = .ok (.aload_n 1, 1) := by decide +kernel
theorem d_jdk_42_method_150_code_5 : decode jdk_42_method_150_code 5 = .ok (.invokevirtual 552, 3) := by decide +kernel
theorem o_pd19 : parseMethodDescriptor "()[B" = some ⟨[], some (.array .byte)⟩ := by decide +kernel
theorem d_jdk_42_method_150_code_8 : decode jdk_42_method_150_code 8 = .ok (.astore_n 3, 1) := by decide +kernel
theorem d_jdk_42_method_150_code_9 : decode jdk_42_method_150_code 9 = .ok (.aload_n 1, 1) := by decide +kernel
theorem d_jdk_42_method_150_code_10 : decode jdk_42_method_150_code 10 = .ok (.invokevirtual 549, 3) := by decide +kernel
theorem d_jdk_42_method_150_code_13 : decode jdk_42_method_150_code 13 = .ok (.istore 4, 2) := by decide +kernel
theorem d_jdk_42_method_150_code_15 : decode jdk_42_method_150_code 15 = .ok (.aload_n 1, 1) := by decide +kernel
theorem d_jdk_42_method_150_code_16 : decode jdk_42_method_150_code 16 = .ok (.invokevirtual 1047, 3) := by decide +kernel
theorem o_pd20 : parseMethodDescriptor "()Z" = some ⟨[], some .boolean⟩ := by decide +kernel
theorem d_jdk_42_method_150_code_19 : decode jdk_42_method_150_code 19 = .ok (.ifCond .eq 22, 3) := by decide +kernel
theorem d_jdk_42_method_150_code_22 : decode jdk_42_method_150_code 22 = .ok (.aload_n 0, 1) := by decide +kernel
theorem d_jdk_42_method_150_code_23 : decode jdk_42_method_150_code 23 = .ok (.iconst 0, 1) := by decide +kernel
theorem d_jdk_42_method_150_code_24 : decode jdk_42_method_150_code 24 = .ok (.putfield 15, 3) := by decide +kernel
theorem d_jdk_42_method_150_code_27 : decode jdk_42_method_150_code 27 = .ok (.aload_n 0, 1) := by decide +kernel
theorem d_jdk_42_method_150_code_28 : decode jdk_42_method_150_code 28 = .ok (.aload_n 3, 1) := by decide +kernel
theorem d_jdk_42_method_150_code_29 : decode jdk_42_method_150_code 29 = .ok (.iconst 0, 1) := by decide +kernel
theorem d_jdk_42_method_150_code_30 : decode jdk_42_method_150_code 30 = .ok (.iload 4, 2) := by decide +kernel
theorem d_jdk_42_method_150_code_32 : decode jdk_42_method_150_code 32 = .ok (.invokestatic 54, 3) := by decide +kernel
theorem d_jdk_42_method_150_code_35 : decode jdk_42_method_150_code 35 = .ok (.putfield 9, 3) := by decide +kernel
theorem d_jdk_42_method_150_code_38 : decode jdk_42_method_150_code 38 = .ok (.goto 59, 3) := by decide +kernel
theorem d_jdk_42_method_150_code_97 : decode jdk_42_method_150_code 97 = .ok (.return_, 1) := by decide +kernel
theorem o_ef66 (m : MethodId) (a1 : Addr) (y1 : Addr) : entryFrame m #[(.ref a1), (.ref y1), .null] 5 = mkF m 0 #[.val (.ref a1), .val (.ref y1), .val .null, .unset, .unset] [] := by first | (simp [entryFrame, mkF, argsToLocals, Value.category]; done) | rfl
set_option maxRecDepth 65536 in
set_option maxHeartbeats 40000000 in
theorem c_ts1_3 (l : Launch) (Z : State) (a0 : Array Value) (hw : ∀ d ∈ tables_1, d.before a0 Z = true) (a1 : Addr) (y1 : Addr) (r : Addr) (kr : ClassId) (cs : Int32) (d0 : Int32) (d1 : Int32) (d2 : Int32) (h0 : Heap) (n0 : Nat) (Z0 : n0 ≤ h0.size) (pg_a1 : n0 ≤ a1) (pE_a1 : Exa Z h0 a1 "java/lang/String") (pF_a1_coder : Fld Z h0 a1 "java/lang/String" "coder" "B" (.int (0 : Int32))) (pF_a1_value : Fld Z h0 a1 "java/lang/String" "value" "[B" .null) (pE_y1 : Exa Z h0 y1 "java/lang/StringBuilder") (pF_y1_value : Fld Z h0 y1 "java/lang/AbstractStringBuilder" "value" "[B" (.ref r)) (pF_y1_coder : Fld Z h0 y1 "java/lang/AbstractStringBuilder" "coder" "B" (.int (0 : Int32))) (pF_y1_count : Fld Z h0 y1 "java/lang/AbstractStringBuilder" "count" "I" (.int (3 : Int32))) (pV_r : Arv Z h0 r kr .byte (16 : Int32) [(.int d0), (.int d1), (.int d2), (.int (0 : Int32)), (.int (0 : Int32)), (.int (0 : Int32)), (.int (0 : Int32)), (.int (0 : Int32)), (.int (0 : Int32)), (.int (0 : Int32)), (.int (0 : Int32)), (.int (0 : Int32)), (.int (0 : Int32)), (.int (0 : Int32)), (.int (0 : Int32)), (.int (0 : Int32))] (.int (0 : Int32))) (pS_COMPACT_STRINGS : Sta Z h0 "java/lang/String" "COMPACT_STRINGS" "Z" (.int cs)) (pne_a1_y1 : a1 ≠ y1) (pne_a1_r : a1 ≠ r) (hcs : ¬ cs = (0 : Int32)) :
    Does l Z (⟨"java/lang/String", "<init>", "(Ljava/lang/AbstractStringBuilder;Ljava/lang/Void;)V"⟩ : MethodName) jdk_42_method_150_code 5 none [] ({ frames := 3, cells := 1, slots := 3, locals := 49 } : Room) #[(.ref a1), (.ref y1), .null] h0 (fun v h L => ∃ (n1 : Addr) (kn : ClassId), v = none ∧ Fr n0 L ∧ Keep h0 h [a1] ∧ h0.size ≤ n1 ∧ Exa Z h a1 "java/lang/String" ∧ Fld Z h a1 "java/lang/String" "coder" "B" (.int (0 : Int32)) ∧ Fld Z h a1 "java/lang/String" "value" "[B" (.ref n1) ∧ Arv Z h n1 kn .byte (3 : Int32) [(.int d0), (.int d1), (.int d2)] (.int (0 : Int32))) := by
  refine Does.of (plainFor_of_name o_pn1) ?_
  intro p e s m below meth c T0 hx hby hml hown hnm hret hlk hZ X0 e0
  have hown : s.vm.findClass "java/lang/String" = some m.cls := hown
  have hml : c.maxLocals = 5 := hml
  have hret : meth.sig.returnType = none := hret
  refine o_entry (o_ef66 m a1 y1) ?_
  have N0 := Fr.nil n0
  refine o_aloadN X0 hx (hb hby d_jdk_42_method_150_code_0) (v := (.ref a1)) rfl rfl (n := 1) rfl ?_
  refine o_initO X0 hx hZ hown (hw _ (List.mem_of_getElem? (i := 11) rfl)) (hw _ (List.mem_of_getElem? (i := 12) rfl)) (hw _ (List.mem_of_getElem? (i := 13) rfl)) e0 (by rw [hml]; rfl) (hb hby d_jdk_42_method_150_code_1) (by decide) 0 (Nat.le_of_eq rfl) (by decide) (n := 4) rfl ?_
  intro T1 X1 e1
  refine o_aloadN X1 hx (hb hby d_jdk_42_method_150_code_4) (v := (.ref y1)) rfl rfl (n := 5) rfl ?_
  refine o_callV X1 hx hZ hown (hw _ (List.mem_of_getElem? (i := 162) rfl)) (hw _ (List.mem_of_getElem? (i := 163) rfl)) (hw _ (List.mem_of_getElem? (i := 165) rfl)) (hw _ (List.mem_of_getElem? (i := 164) rfl)) (hw _ (List.mem_of_getElem? (i := 92) rfl)) (hw _ (List.mem_of_getElem? (i := 166) rfl)) (by decide) e1 pE_y1 (argsL := []) (rest := []) (c_gv l Z a0 hw y1 r h0 pF_y1_value) 0 (by decide) (by decide) (by decide) (by decide) (by rw [hml]; rfl) (lenOf o_pd19 rfl) rfl (Nat.le_of_eq rfl) (hb hby d_jdk_42_method_150_code_5) (n := 8) rfl ?_
  intro v2 T2 L2 X2 q2
  obtain ⟨rfl, e2, rfl⟩ := q2
  have N3 := Fr.app N0 (Fr.nil n0)
  show Goes _ _ p e below s _ _ _ (T2.setTop (mkF m 8 #[.val (.ref a1), .val (.ref y1), .val .null, .unset, .unset] [(.ref r)]))
  refine o_astoreN X2 hx (hb hby d_jdk_42_method_150_code_8) rfl (Ls' := #[.val (.ref a1), .val (.ref y1), .val .null, .val (.ref r), .unset]) rfl (n := 9) rfl ?_
  refine o_aloadN X2 hx (hb hby d_jdk_42_method_150_code_9) (v := (.ref y1)) rfl rfl (n := 10) rfl ?_
  refine o_callVO X2 hx hZ hown (hw _ (List.mem_of_getElem? (i := 167) rfl)) (hw _ (List.mem_of_getElem? (i := 168) rfl)) (hw _ (List.mem_of_getElem? (i := 170) rfl)) (hw _ (List.mem_of_getElem? (i := 171) rfl)) (Or.inr (o_nface hZ (hw _ (List.mem_of_getElem? (i := 165) rfl)) rfl)) (hw _ (List.mem_of_getElem? (i := 84) rfl)) (hw _ (List.mem_of_getElem? (i := 172) rfl)) (by decide) e2 pE_y1 (argsL := []) (rest := []) (c_sbl l Z a0 hw y1 (3 : Int32) h0 pE_y1 pF_y1_count) 0 (by decide) (by decide) (by decide) (by decide) (by rw [hml]; rfl) (lenOf o_pd13 rfl) rfl (Nat.le_of_eq rfl) (hb hby d_jdk_42_method_150_code_10) (n := 13) rfl ?_
  intro v4 T4 L4 X4 q4
  obtain ⟨rfl, e4, rfl⟩ := q4
  have N5 := Fr.app N3 (Fr.nil n0)
  show Goes _ _ p e below s _ _ _ (T4.setTop (mkF m 13 #[.val (.ref a1), .val (.ref y1), .val .null, .val (.ref r), .unset] [(.int (3 : Int32))]))
  refine o_istore X4 hx (hb hby d_jdk_42_method_150_code_13) (Ls' := #[.val (.ref a1), .val (.ref y1), .val .null, .val (.ref r), .val (.int (3 : Int32))]) rfl (n := 15) rfl ?_
  refine o_aloadN X4 hx (hb hby d_jdk_42_method_150_code_15) (v := (.ref y1)) rfl rfl (n := 16) rfl ?_
  refine o_callV X4 hx hZ hown (hw _ (List.mem_of_getElem? (i := 175) rfl)) (hw _ (List.mem_of_getElem? (i := 176) rfl)) (hw _ (List.mem_of_getElem? (i := 178) rfl)) (hw _ (List.mem_of_getElem? (i := 177) rfl)) (hw _ (List.mem_of_getElem? (i := 92) rfl)) (hw _ (List.mem_of_getElem? (i := 179) rfl)) (by decide) e4 pE_y1 (argsL := []) (rest := []) (c_isl l Z a0 hw y1 cs h0 pF_y1_coder pS_COMPACT_STRINGS hcs) 0 (by decide) (by decide) (by decide) (by decide) (by rw [hml]; rfl) (lenOf o_pd20 rfl) rfl (Nat.le_of_eq rfl) (hb hby d_jdk_42_method_150_code_16) (n := 19) rfl ?_
  intro v6 T6 L6 X6 q6
  obtain ⟨rfl, e6, rfl⟩ := q6
  have N7 := Fr.app N5 (Fr.nil n0)
  show Goes _ _ p e below s _ _ _ (T6.setTop (mkF m 19 #[.val (.ref a1), .val (.ref y1), .val .null, .val (.ref r), .val (.int (3 : Int32))] [(.int (1 : Int32))]))
  refine o_ifN X6 hx (hb hby d_jdk_42_method_150_code_19) (XT.i0_eq_f (by decide)) (n := 22) rfl ?_
  refine o_aloadN X6 hx (hb hby d_jdk_42_method_150_code_22) (v := (.ref a1)) rfl rfl (n := 23) rfl ?_
  refine o_iconst X6 hx (hb hby d_jdk_42_method_150_code_23) (v := (0 : Int32)) rfl (n := 24) rfl ?_
  refine o_putfield X6 hx hZ hown (host := "") (Or.inl (hw _ (List.mem_of_getElem? (i := 26) rfl))) Via.refl e6 pF_a1_coder pE_a1 (Or.inr ⟨(hw _ (List.mem_of_getElem? (i := 27) rfl)), rfl, hnm⟩) (hw _ (List.mem_of_getElem? (i := 2) rfl)) (ty := .byte) (by decide) rfl rfl (hb hby d_jdk_42_method_150_code_24) (n := 27) rfl ?_
  intro T8 h8 X8 e8 W8 F8 E_8
  have f9 := pF_a1_value.other W8 (Or.inr (slot_ne (Or.inr (hw _ (List.mem_of_getElem? (i := 29) rfl))) (Or.inr (hw _ (List.mem_of_getElem? (i := 27) rfl))) (by decide) (t := (.array .byte)) (t' := .byte) (by decide) (by decide)))
  have f10 := pE_y1.wr W8
  have f11 := pF_y1_value.other W8 (Or.inl (Ne.symm pne_a1_y1))
  have f12 := pF_y1_coder.other W8 (Or.inl (Ne.symm pne_a1_y1))
  have f13 := pF_y1_count.other W8 (Or.inl (Ne.symm pne_a1_y1))
  have f14 := pV_r.other W8 (Ne.symm pne_a1_r)
  have f15 := pS_COMPACT_STRINGS.wr W8
  have zz8 : n0 ≤ h8.size := Nat.le_trans Z0 (Nat.le_of_eq W8.size.symm)
  have N16 := Fr.snoc X8 N7 pg_a1
  have K17 : Keep h0 h8 [a1] := (Keep.refl h0 [a1]).wr W8 (Or.inl (List.mem_of_getElem? (i := 0) rfl))
  refine o_aloadN X8 hx (hb hby d_jdk_42_method_150_code_27) (v := (.ref a1)) rfl rfl (n := 28) rfl ?_
  refine o_aloadN X8 hx (hb hby d_jdk_42_method_150_code_28) (v := (.ref r)) rfl rfl (n := 29) rfl ?_
  refine o_iconst X8 hx (hb hby d_jdk_42_method_150_code_29) (v := (0 : Int32)) rfl (n := 30) rfl ?_
  refine o_iload X8 hx (hb hby d_jdk_42_method_150_code_30) (v := (3 : Int32)) rfl (n := 32) rfl ?_
  refine o_callS X8 hx hZ hown (hw _ (List.mem_of_getElem? (i := 180) rfl)) (hw _ (List.mem_of_getElem? (i := 181) rfl)) (hw _ (List.mem_of_getElem? (i := 182) rfl)) (hw _ (List.mem_of_getElem? (i := 183) rfl)) (by decide) e8 (argsL := [(.ref r), (.int (0 : Int32)), (.int (3 : Int32))]) (rest := [(.ref a1)]) (c_cr3 l Z a0 hw r kr d0 d1 d2 h8 n0 zz8 f14) 1 (by decide) (by decide) (by decide) (by decide) (by rw [hml]; rfl) (lenOf o_pd18 rfl) rfl (Nat.le_of_eq rfl) (hb hby d_jdk_42_method_150_code_32) (n := 35) rfl ?_
  intro v18 T18 L18 X18 q18
  obtain ⟨n1_18, kn_18, rfl, Nq18, K18, sq18_n1, o18_0⟩ := q18
  have N19 := Fr.app N16 Nq18
  have ne20 : a1 ≠ n1_18 := Nat.ne_of_lt (Nat.lt_of_lt_of_le E_8.lt sq18_n1)
  have ne21 : y1 ≠ n1_18 := Nat.ne_of_lt (Nat.lt_of_lt_of_le f10.lt sq18_n1)
  have ne22 : r ≠ n1_18 := Nat.ne_of_lt (Nat.lt_of_lt_of_le f14.lt sq18_n1)
  have gg18_n1 : n0 ≤ n1_18 := Nat.le_trans zz8 sq18_n1
  have sz18_n1 : h0.size ≤ n1_18 := Nat.le_trans K17.1 sq18_n1
  have f23 := E_8.keep K18
  have f24 := F8.keep K18 nin0
  have f25 := f9.keep K18 nin0
  have f26 := f10.keep K18
  have f27 := f11.keep K18 nin0
  have f28 := f12.keep K18 nin0
  have f29 := f13.keep K18 nin0
  have f30 := f14.keep K18 nin0
  have f31 := o_sta_keep f15 K18 all0
  have zz18 : n0 ≤ T18.heap.size := Nat.le_trans zz8 K18.1
  have K32 : Keep h0 T18.heap [a1] := K17.trans K18 all0
  show Goes _ _ p e below s _ _ _ (T18.setTop (mkF m 35 #[.val (.ref a1), .val (.ref y1), .val .null, .val (.ref r), .val (.int (3 : Int32))] [(.ref n1_18), (.ref a1)]))
  refine o_putfield X18 hx hZ hown (host := "") (Or.inl (hw _ (List.mem_of_getElem? (i := 28) rfl))) Via.refl (rfl : T18.heap = T18.heap) f25 f23 (Or.inr ⟨(hw _ (List.mem_of_getElem? (i := 29) rfl)), rfl, hnm⟩) (hw _ (List.mem_of_getElem? (i := 2) rfl)) (ty := (.array .byte)) (by decide) rfl rfl (hb hby d_jdk_42_method_150_code_35) (n := 38) rfl ?_
  intro T33 h33 X33 e33 W33 F33 E_33
  have f34 := f24.other W33 (Or.inr (slot_ne (Or.inr (hw _ (List.mem_of_getElem? (i := 27) rfl))) (Or.inr (hw _ (List.mem_of_getElem? (i := 29) rfl))) (by decide) (t := .byte) (t' := (.array .byte)) (by decide) (by decide)))
  have f35 := f26.wr W33
  have f36 := f27.other W33 (Or.inl (Ne.symm pne_a1_y1))
  have f37 := f28.other W33 (Or.inl (Ne.symm pne_a1_y1))
  have f38 := f29.other W33 (Or.inl (Ne.symm pne_a1_y1))
  have f39 := f30.other W33 (Ne.symm pne_a1_r)
  have f40 := f31.wr W33
  have f41 := o18_0.other W33 (Ne.symm ne20)
  have zz33 : n0 ≤ h33.size := Nat.le_trans zz18 (Nat.le_of_eq W33.size.symm)
  have N42 := Fr.snoc X33 N19 pg_a1
  have K43 : Keep h0 h33 [a1] := K32.wr W33 (Or.inl (List.mem_of_getElem? (i := 0) rfl))
  refine o_goto X33 hx (hb hby d_jdk_42_method_150_code_38) (by decide) (n := 97) (by decide) ?_
  exact o_return X33 hx hret hlk (hb hby d_jdk_42_method_150_code_97) (by decide) (by decide) e33 ⟨n1_18, kn_18, rfl, N42, K43, sz18_n1, E_33, f34, F33, f41⟩
theorem d_jdk_42_method_53_code_0 : decode jdk_42_method_53_code 0 = .ok (.aload_n 0, 1) := by decide +kernel
theorem d_jdk_42_method_53_code_1 : decode jdk_42_method_53_code 1 = .ok (.aload_n 1, 1) := by decide +kernel
theorem d_jdk_42_method_53_code_2 : decode jdk_42_method_53_code 2 = .ok (.aconst_null, 1) := by decide +kernel
theorem d_jdk_42_method_53_code_3 : decode jdk_42_method_53_code 3 = .ok (.invokespecial 489, 3) := by decide +kernel
theorem o_pd21 : parseMethodDescriptor "(Ljava/lang/AbstractStringBuilder;Ljava/lang/Void;)V" = some ⟨[(.object "java/lang/AbstractStringBuilder"), (.object "java/lang/Void")], none⟩ := by decide +kernel
theorem d_jdk_42_method_53_code_6 : decode jdk_42_method_53_code 6 = .ok (.return_, 1) := by decide +kernel
theorem o_ef67 (m : MethodId) (a1 : Addr) (y1 : Addr) : entryFrame m #[(.ref a1), (.ref y1)] 2 = mkF m 0 #[.val (.ref a1), .val (.ref y1)] [] := by first | (simp [entryFrame, mkF, argsToLocals, Value.category]; done) | rfl
set_option maxRecDepth 65536 in
set_option maxHeartbeats 40000000 in
theorem c_ts2_3 (l : Launch) (Z : State) (a0 : Array Value) (hw : ∀ d ∈ tables_1, d.before a0 Z = true) (a1 : Addr) (y1 : Addr) (r : Addr) (kr : ClassId) (cs : Int32) (d0 : Int32) (d1 : Int32) (d2 : Int32) (h0 : Heap) (n0 : Nat) (Z0 : n0 ≤ h0.size) (pg_a1 : n0 ≤ a1) (pE_a1 : Exa Z h0 a1 "java/lang/String") (pF_a1_coder : Fld Z h0 a1 "java/lang/String" "coder" "B" (.int (0 : Int32))) (pF_a1_value : Fld Z h0 a1 "java/lang/String" "value" "[B" .null) (pE_y1 : Exa Z h0 y1 "java/lang/StringBuilder") (pF_y1_value : Fld Z h0 y1 "java/lang/AbstractStringBuilder" "value" "[B" (.ref r)) (pF_y1_coder : Fld Z h0 y1 "java/lang/AbstractStringBuilder" "coder" "B" (.int (0 : Int32))) (pF_y1_count : Fld Z h0 y1 "java/lang/AbstractStringBuilder" "count" "I" (.int (3 : Int32))) (pV_r : Arv Z h0 r kr .byte (16 : Int32) [(.int d0), (.int d1), (.int d2), (.int (0 : Int32)), (.int (0 : Int32)), (.int (0 : Int32)), (.int (0 : Int32)), (.int (0 : Int32)), (.int (0 : Int32)), (.int (0 : Int32)), (.int (0 : Int32)), (.int (0 : Int32)), (.int (0 : Int32)), (.int (0 : Int32)), (.int (0 : Int32)), (.int (0 : Int32))] (.int (0 : Int32))) (pS_COMPACT_STRINGS : Sta Z h0 "java/lang/String" "COMPACT_STRINGS" "Z" (.int cs)) (pne_a1_y1 : a1 ≠ y1) (pne_a1_r : a1 ≠ r) (hcs : ¬ cs = (0 : Int32)) :
    Does l Z (⟨"java/lang/String", "<init>", "(Ljava/lang/StringBuilder;)V"⟩ : MethodName) jdk_42_method_53_code 2 none [] ({ frames := 4, cells := 1, slots := 3, locals := 65 } : Room) #[(.ref a1), (.ref y1)] h0 (fun v h L => ∃ (n1 : Addr) (kn : ClassId), v = none ∧ Fr n0 L ∧ Keep h0 h [a1] ∧ h0.size ≤ n1 ∧ Exa Z h a1 "java/lang/String" ∧ Fld Z h a1 "java/lang/String" "coder" "B" (.int (0 : Int32)) ∧ Fld Z h a1 "java/lang/String" "value" "[B" (.ref n1) ∧ Arv Z h n1 kn .byte (3 : Int32) [(.int d0), (.int d1), (.int d2)] (.int (0 : Int32))) := by
  refine Does.of (plainFor_of_name o_pn1) ?_
  intro p e s m below meth c T0 hx hby hml hown hnm hret hlk hZ X0 e0
  have hown : s.vm.findClass "java/lang/String" = some m.cls := hown
  have hml : c.maxLocals = 2 := hml
  have hret : meth.sig.returnType = none := hret
  refine o_entry (o_ef67 m a1 y1) ?_
  have N0 := Fr.nil n0
  refine o_aloadN X0 hx (hb hby d_jdk_42_method_53_code_0) (v := (.ref a1)) rfl rfl (n := 1) rfl ?_
  refine o_aloadN X0 hx (hb hby d_jdk_42_method_53_code_1) (v := (.ref y1)) rfl rfl (n := 2) rfl ?_
  refine o_aconst_null X0 hx (hb hby d_jdk_42_method_53_code_2) (n := 3) rfl ?_
  refine o_callN X0 hx hZ rfl hown (hw _ (List.mem_of_getElem? (i := 159) rfl)) (hw _ (List.mem_of_getElem? (i := 160) rfl)) (hw _ (List.mem_of_getElem? (i := 3) rfl)) (hw _ (List.mem_of_getElem? (i := 161) rfl)) (by decide) e0 (a := a1) (argsL := [(.ref y1), .null]) (rest := []) (c_ts1_3 l Z a0 hw a1 y1 r kr cs d0 d1 d2 h0 n0 Z0 pg_a1 pE_a1 pF_a1_coder pF_a1_value pE_y1 pF_y1_value pF_y1_coder pF_y1_count pV_r pS_COMPACT_STRINGS pne_a1_y1 pne_a1_r hcs) 0 (by decide) (by decide) (by decide) (by decide) (by rw [hml]; rfl) (lenOf o_pd21 rfl) rfl (Nat.le_of_eq rfl) (hb hby d_jdk_42_method_53_code_3) (n := 6) rfl ?_
  intro v1 T1 L1 X1 q1
  obtain ⟨n1_1, kn_1, rfl, Nq1, K1, sq1_n1, o1_0, o1_1, o1_2, o1_3⟩ := q1
  have N2 := Fr.app N0 Nq1
  have ne3 : a1 ≠ n1_1 := Nat.ne_of_lt (Nat.lt_of_lt_of_le pE_a1.lt sq1_n1)
  have ne4 : y1 ≠ n1_1 := Nat.ne_of_lt (Nat.lt_of_lt_of_le pE_y1.lt sq1_n1)
  have ne5 : r ≠ n1_1 := Nat.ne_of_lt (Nat.lt_of_lt_of_le pV_r.lt sq1_n1)
  have gg1_n1 : n0 ≤ n1_1 := Nat.le_trans Z0 sq1_n1
  have sz1_n1 : h0.size ≤ n1_1 := Nat.le_trans (Keep.refl h0 [a1]).1 sq1_n1
  have f6 := pE_a1.keep K1
  have f9 := pE_y1.keep K1
  have f10 := pF_y1_value.keep K1 (ninS (Ne.symm pne_a1_y1) nin0)
  have f11 := pF_y1_coder.keep K1 (ninS (Ne.symm pne_a1_y1) nin0)
  have f12 := pF_y1_count.keep K1 (ninS (Ne.symm pne_a1_y1) nin0)
  have f13 := pV_r.keep K1 (ninS (Ne.symm pne_a1_r) nin0)
  have f14 := o_sta_keep pS_COMPACT_STRINGS K1 (allS (P := fun a => ∀ cl : Cell, h0[a]? = some cl → cl.vm.isStatics = false) (o_exa_ns pE_a1) all0)
  have zz1 : n0 ≤ T1.heap.size := Nat.le_trans Z0 K1.1
  have K15 : Keep h0 T1.heap [a1] := (Keep.refl h0 [a1]).trans K1 (allS (P := fun x => x ∈ [a1] ∨ h0.size ≤ x) (Or.inl (List.mem_of_getElem? (i := 0) rfl)) all0)
  show Goes _ _ p e below s _ _ _ (T1.setTop (mkF m 6 #[.val (.ref a1), .val (.ref y1)] []))
  exact o_return X1 hx hret hlk (hb hby d_jdk_42_method_53_code_6) (by decide) (by decide) (rfl : T1.heap = T1.heap) ⟨n1_1, kn_1, rfl, N2, K15, sz1_n1, o1_0, o1_1, o1_2, o1_3⟩
theorem d_jdk_67_method_42_code_0 : decode jdk_67_method_42_code 0 = .ok (.new 18, 3) := by decide +kernel
theorem d_jdk_67_method_42_code_3 : decode jdk_67_method_42_code 3 = .ok (.dup, 1) := by decide +kernel
theorem d_jdk_67_method_42_code_4 : decode jdk_67_method_42_code 4 = .ok (.aload_n 0, 1) := by decide +kernel
theorem d_jdk_67_method_42_code_5 : decode jdk_67_method_42_code 5 = .ok (.invokespecial 137, 3) := by decide +kernel
theorem o_pd22 : parseMethodDescriptor "(Ljava/lang/StringBuilder;)V" = some ⟨[(.object "java/lang/StringBuilder")], none⟩ := by decide +kernel
theorem d_jdk_67_method_42_code_8 : decode jdk_67_method_42_code 8 = .ok (.areturn, 1) := by decide +kernel
theorem o_ef68 (m : MethodId) (y1 : Addr) : entryFrame m #[(.ref y1)] 1 = mkF m 0 #[.val (.ref y1)] [] := by first | (simp [entryFrame, mkF, argsToLocals, Value.category]; done) | rfl
set_option maxRecDepth 65536 in
set_option maxHeartbeats 40000000 in
theorem c_ts3_3 (l : Launch) (Z : State) (a0 : Array Value) (hw : ∀ d ∈ tables_1, d.before a0 Z = true) (y1 : Addr) (r : Addr) (kr : ClassId) (cs : Int32) (d0 : Int32) (d1 : Int32) (d2 : Int32) (h0 : Heap) (n0 : Nat) (Z0 : n0 ≤ h0.size) (pE_y1 : Exa Z h0 y1 "java/lang/StringBuilder") (pF_y1_value : Fld Z h0 y1 "java/lang/AbstractStringBuilder" "value" "[B" (.ref r)) (pF_y1_coder : Fld Z h0 y1 "java/lang/AbstractStringBuilder" "coder" "B" (.int (0 : Int32))) (pF_y1_count : Fld Z h0 y1 "java/lang/AbstractStringBuilder" "count" "I" (.int (3 : Int32))) (pV_r : Arv Z h0 r kr .byte (16 : Int32) [(.int d0), (.int d1), (.int d2), (.int (0 : Int32)), (.int (0 : Int32)), (.int (0 : Int32)), (.int (0 : Int32)), (.int (0 : Int32)), (.int (0 : Int32)), (.int (0 : Int32)), (.int (0 : Int32)), (.int (0 : Int32)), (.int (0 : Int32)), (.int (0 : Int32)), (.int (0 : Int32)), (.int (0 : Int32))] (.int (0 : Int32))) (pS_COMPACT_STRINGS : Sta Z h0 "java/lang/String" "COMPACT_STRINGS" "Z" (.int cs)) (hcs : ¬ cs = (0 : Int32)) :
    Does l Z (⟨"java/lang/StringBuilder", "toString", "()Ljava/lang/String;"⟩ : MethodName) jdk_67_method_42_code 1 (some (.object "java/lang/String")) [] ({ frames := 5, cells := 2, slots := 7, locals := 79 } : Room) #[(.ref y1)] h0 (fun v h L => ∃ (s1 : Addr), ∃ (n1 : Addr) (kn : ClassId), v = some (.ref s1) ∧ Fr n0 L ∧ Keep h0 h [] ∧ h0.size ≤ s1 ∧ h0.size ≤ n1 ∧ Exa Z h s1 "java/lang/String" ∧ Fld Z h s1 "java/lang/String" "coder" "B" (.int (0 : Int32)) ∧ Fld Z h s1 "java/lang/String" "value" "[B" (.ref n1) ∧ Arv Z h n1 kn .byte (3 : Int32) [(.int d0), (.int d1), (.int d2)] (.int (0 : Int32))) := by
  refine Does.of (plainFor_of_name o_pn7) ?_
  intro p e s m below meth c T0 hx hby hml hown hnm hret hlk hZ X0 e0
  have hown : s.vm.findClass "java/lang/StringBuilder" = some m.cls := hown
  have hml : c.maxLocals = 1 := hml
  have hret : meth.sig.returnType = some (.object "java/lang/String") := hret
  refine o_entry (o_ef68 m y1) ?_
  have N0 := Fr.nil n0
  refine o_new X0 hx hZ hown (hw _ (List.mem_of_getElem? (i := 155) rfl)) (hw _ (List.mem_of_getElem? (i := 2) rfl)) (hw _ (List.mem_of_getElem? (i := 3) rfl)) e0 (hb hby d_jdk_67_method_42_code_0) (by decide) (by decide) (n := 3) rfl ?_
  intro T1 h1 b1 X1 e1 g1 E1 A1 D1
  have ne2 : y1 ≠ b1 := Nat.ne_of_lt (Nat.lt_of_lt_of_eq pE_y1.lt g1.symm)
  have ne3 : r ≠ b1 := Nat.ne_of_lt (Nat.lt_of_lt_of_eq pV_r.lt g1.symm)
  have gg1 : n0 ≤ b1 := Nat.le_trans Z0 (Nat.le_of_eq g1.symm)
  have zz1 : n0 ≤ h1.size := Nat.le_trans Z0 E1.1
  have sz1 : h0.size ≤ b1 := Nat.le_trans (Keep.refl h0 []).1 (Nat.le_of_eq g1.symm)
  have f4 := pE_y1.ext E1
  have f5 := pF_y1_value.ext E1
  have f6 := pF_y1_coder.ext E1
  have f7 := pF_y1_count.ext E1
  have f8 := pV_r.ext E1
  have f9 := pS_COMPACT_STRINGS.ext E1
  have K10 : Keep h0 h1 [] := (Keep.refl h0 []).ext E1
  have f11 : Fld Z h1 b1 "java/lang/String" "coder" "B" (.int (0 : Int32)) := D1 (Or.inr (hw _ (List.mem_of_getElem? (i := 27) rfl))) (ty := .byte) (by decide)
  have f12 : Fld Z h1 b1 "java/lang/String" "value" "[B" .null := D1 (Or.inr (hw _ (List.mem_of_getElem? (i := 29) rfl))) (ty := (.array .byte)) (by decide)
  refine o_dup X1 hx (hb hby d_jdk_67_method_42_code_3) rfl (n := 4) rfl ?_
  refine o_aloadN X1 hx (hb hby d_jdk_67_method_42_code_4) (v := (.ref y1)) rfl rfl (n := 5) rfl ?_
  refine o_callN X1 hx hZ rfl hown (hw _ (List.mem_of_getElem? (i := 156) rfl)) (hw _ (List.mem_of_getElem? (i := 157) rfl)) (hw _ (List.mem_of_getElem? (i := 3) rfl)) (hw _ (List.mem_of_getElem? (i := 158) rfl)) (by decide) e1 (a := b1) (argsL := [(.ref y1)]) (rest := [(.ref b1)]) (c_ts2_3 l Z a0 hw b1 y1 r kr cs d0 d1 d2 h1 n0 zz1 gg1 A1 f11 f12 f4 f5 f6 f7 f8 f9 (Ne.symm ne2) (Ne.symm ne3) hcs) 1 (by decide) (by decide) (by decide) (by decide) (by rw [hml]; rfl) (lenOf o_pd22 rfl) rfl (Nat.le_of_eq rfl) (hb hby d_jdk_67_method_42_code_5) (n := 8) rfl ?_
  intro v13 T13 L13 X13 q13
  obtain ⟨n1_13, kn_13, rfl, Nq13, K13, sq13_n1, o13_0, o13_1, o13_2, o13_3⟩ := q13
  have N14 := Fr.app N0 Nq13
  have ne15 : y1 ≠ n1_13 := Nat.ne_of_lt (Nat.lt_of_lt_of_le f4.lt sq13_n1)
  have ne16 : r ≠ n1_13 := Nat.ne_of_lt (Nat.lt_of_lt_of_le f8.lt sq13_n1)
  have ne17 : b1 ≠ n1_13 := Nat.ne_of_lt (Nat.lt_of_lt_of_le A1.lt sq13_n1)
  have gg13_n1 : n0 ≤ n1_13 := Nat.le_trans zz1 sq13_n1
  have sz13_n1 : h0.size ≤ n1_13 := Nat.le_trans K10.1 sq13_n1
  have f18 := f4.keep K13
  have f19 := f5.keep K13 (ninS ne2 nin0)
  have f20 := f6.keep K13 (ninS ne2 nin0)
  have f21 := f7.keep K13 (ninS ne2 nin0)
  have f22 := f8.keep K13 (ninS ne3 nin0)
  have f23 := o_sta_keep f9 K13 (allS (P := fun a => ∀ cl : Cell, h1[a]? = some cl → cl.vm.isStatics = false) (o_exa_ns A1) all0)
  have f24 := A1.keep K13
  have zz13 : n0 ≤ T13.heap.size := Nat.le_trans zz1 K13.1
  have K27 : Keep h0 T13.heap [] := K10.trans K13 (allS (P := fun x => x ∈ [] ∨ h0.size ≤ x) (Or.inr sz1) all0)
  show Goes _ _ p e below s _ _ _ (T13.setTop (mkF m 8 #[.val (.ref y1)] [(.ref b1)]))
  exact o_areturn X13 hx hret hlk rfl rfl (hb hby d_jdk_67_method_42_code_8) (by decide) (by decide) (rfl : T13.heap = T13.heap) ⟨b1, n1_13, kn_13, rfl, N14, K27, sz1, sz13_n1, o13_0, o13_1, o13_2, o13_3⟩
theorem o_ef69 (m : MethodId) (a1 : Addr) (y1 : Addr) : entryFrame m #[(.ref a1), (.ref y1), .null] 5 = mkF m 0 #[.val (.ref a1), .val (.ref y1), .val .null, .unset, .unset] [] := by first | (simp [entryFrame, mkF, argsToLocals, Value.category]; done) | rfl
set_option maxRecDepth 65536 in
set_option maxHeartbeats 40000000 in
theorem c_ts1_4 (l : Launch) (Z : State) (a0 : Array Value) (hw : ∀ d ∈ tables_1, d.before a0 Z = true) (a1 : Addr) (y1 : Addr) (r : Addr) (kr : ClassId) (cs : Int32) (d0 : Int32) (d1 : Int32) (d2 : Int32) (d3 : Int32) (h0 : Heap) (n0 : Nat) (Z0 : n0 ≤ h0.size) (pg_a1 : n0 ≤ a1) (pE_a1 : Exa Z h0 a1 "java/lang/String") (pF_a1_coder : Fld Z h0 a1 "java/lang/String" "coder" "B" (.int (0 : Int32))) (pF_a1_value : Fld Z h0 a1 "java/lang/String" "value" "[B" .null) (pE_y1 : Exa Z h0 y1 "java/lang/StringBuilder") (pF_y1_value : Fld Z h0 y1 "java/lang/AbstractStringBuilder" "value" "[B" (.ref r)) (pF_y1_coder : Fld Z h0 y1 "java/lang/AbstractStringBuilder" "coder" "B" (.int (0 : Int32))) (pF_y1_count : Fld Z h0 y1 "java/lang/AbstractStringBuilder" "count" "I" (.int (4 : Int32))) (pV_r : Arv Z h0 r kr .byte (16 : Int32) [(.int d0), (.int d1), (.int d2), (.int d3), (.int (0 : Int32)), (.int (0 : Int32)), (.int (0 : Int32)), (.int (0 : Int32)), (.int (0 : Int32)), (.int (0 : Int32)), (.int (0 : Int32)), (.int (0 : Int32)), (.int (0 : Int32)), (.int (0 : Int32)), (.int (0 : Int32)), (.int (0 : Int32))] (.int (0 : Int32))) (pS_COMPACT_STRINGS : Sta Z h0 "java/lang/String" "COMPACT_STRINGS" "Z" (.int cs)) (pne_a1_y1 : a1 ≠ y1) (pne_a1_r : a1 ≠ r) (hcs : ¬ cs = (0 : Int32)) :
    Does l Z (⟨"java/lang/String", "<init>", "(Ljava/lang/AbstractStringBuilder;Ljava/lang/Void;)V"⟩ : MethodName) jdk_42_method_150_code 5 none [] ({ frames := 3, cells := 1, slots := 4, locals := 49 } : Room) #[(.ref a1), (.ref y1), .null] h0 (fun v h L => ∃ (n1 : Addr) (kn : ClassId), v = none ∧ Fr n0 L ∧ Keep h0 h [a1] ∧ h0.size ≤ n1 ∧ Exa Z h a1 "java/lang/String" ∧ Fld Z h a1 "java/lang/String" "coder" "B" (.int (0 : Int32)) ∧ Fld Z h a1 "java/lang/String" "value" "[B" (.ref n1) ∧ Arv Z h n1 kn .byte (4 : Int32) [(.int d0), (.int d1), (.int d2), (.int d3)] (.int (0 : Int32))) := by
  refine Does.of (plainFor_of_name o_pn1) ?_
  intro p e s m below meth c T0 hx hby hml hown hnm hret hlk hZ X0 e0
  have hown : s.vm.findClass "java/lang/String" = some m.cls := hown
  have hml : c.maxLocals = 5 := hml
  have hret : meth.sig.returnType = none := hret
  refine o_entry (o_ef69 m a1 y1) ?_
  have N0 := Fr.nil n0
  refine o_aloadN X0 hx (hb hby d_jdk_42_method_150_code_0) (v := (.ref a1)) rfl rfl (n := 1) rfl ?_
  refine o_initO X0 hx hZ hown (hw _ (List.mem_of_getElem? (i := 11) rfl)) (hw _ (List.mem_of_getElem? (i := 12) rfl)) (hw _ (List.mem_of_getElem? (i := 13) rfl)) e0 (by rw [hml]; rfl) (hb hby d_jdk_42_method_150_code_1) (by decide) 0 (Nat.le_of_eq rfl) (by decide) (n := 4) rfl ?_
  intro T1 X1 e1
  refine o_aloadN X1 hx (hb hby d_jdk_42_method_150_code_4) (v := (.ref y1)) rfl rfl (n := 5) rfl ?_
  refine o_callV X1 hx hZ hown (hw _ (List.mem_of_getElem? (i := 162) rfl)) (hw _ (List.mem_of_getElem? (i := 163) rfl)) (hw _ (List.mem_of_getElem? (i := 165) rfl)) (hw _ (List.mem_of_getElem? (i := 164) rfl)) (hw _ (List.mem_of_getElem? (i := 92) rfl)) (hw _ (List.mem_of_getElem? (i := 166) rfl)) (by decide) e1 pE_y1 (argsL := []) (rest := []) (c_gv l Z a0 hw y1 r h0 pF_y1_value) 0 (by decide) (by decide) (by decide) (by decide) (by rw [hml]; rfl) (lenOf o_pd19 rfl) rfl (Nat.le_of_eq rfl) (hb hby d_jdk_42_method_150_code_5) (n := 8) rfl ?_
  intro v2 T2 L2 X2 q2
  obtain ⟨rfl, e2, rfl⟩ := q2
  have N3 := Fr.app N0 (Fr.nil n0)
  show Goes _ _ p e below s _ _ _ (T2.setTop (mkF m 8 #[.val (.ref a1), .val (.ref y1), .val .null, .unset, .unset] [(.ref r)]))
  refine o_astoreN X2 hx (hb hby d_jdk_42_method_150_code_8) rfl (Ls' := #[.val (.ref a1), .val (.ref y1), .val .null, .val (.ref r), .unset]) rfl (n := 9) rfl ?_
  refine o_aloadN X2 hx (hb hby d_jdk_42_method_150_code_9) (v := (.ref y1)) rfl rfl (n := 10) rfl ?_
  refine o_callVO X2 hx hZ hown (hw _ (List.mem_of_getElem? (i := 167) rfl)) (hw _ (List.mem_of_getElem? (i := 168) rfl)) (hw _ (List.mem_of_getElem? (i := 170) rfl)) (hw _ (List.mem_of_getElem? (i := 171) rfl)) (Or.inr (o_nface hZ (hw _ (List.mem_of_getElem? (i := 165) rfl)) rfl)) (hw _ (List.mem_of_getElem? (i := 84) rfl)) (hw _ (List.mem_of_getElem? (i := 172) rfl)) (by decide) e2 pE_y1 (argsL := []) (rest := []) (c_sbl l Z a0 hw y1 (4 : Int32) h0 pE_y1 pF_y1_count) 0 (by decide) (by decide) (by decide) (by decide) (by rw [hml]; rfl) (lenOf o_pd13 rfl) rfl (Nat.le_of_eq rfl) (hb hby d_jdk_42_method_150_code_10) (n := 13) rfl ?_
  intro v4 T4 L4 X4 q4
  obtain ⟨rfl, e4, rfl⟩ := q4
  have N5 := Fr.app N3 (Fr.nil n0)
  show Goes _ _ p e below s _ _ _ (T4.setTop (mkF m 13 #[.val (.ref a1), .val (.ref y1), .val .null, .val (.ref r), .unset] [(.int (4 : Int32))]))
  refine o_istore X4 hx (hb hby d_jdk_42_method_150_code_13) (Ls' := #[.val (.ref a1), .val (.ref y1), .val .null, .val (.ref r), .val (.int (4 : Int32))]) rfl (n := 15) rfl ?_
  refine o_aloadN X4 hx (hb hby d_jdk_42_method_150_code_15) (v := (.ref y1)) rfl rfl (n := 16) rfl ?_
  refine o_callV X4 hx hZ hown (hw _ (List.mem_of_getElem? (i := 175) rfl)) (hw _ (List.mem_of_getElem? (i := 176) rfl)) (hw _ (List.mem_of_getElem? (i := 178) rfl)) (hw _ (List.mem_of_getElem? (i := 177) rfl)) (hw _ (List.mem_of_getElem? (i := 92) rfl)) (hw _ (List.mem_of_getElem? (i := 179) rfl)) (by decide) e4 pE_y1 (argsL := []) (rest := []) (c_isl l Z a0 hw y1 cs h0 pF_y1_coder pS_COMPACT_STRINGS hcs) 0 (by decide) (by decide) (by decide) (by decide) (by rw [hml]; rfl) (lenOf o_pd20 rfl) rfl (Nat.le_of_eq rfl) (hb hby d_jdk_42_method_150_code_16) (n := 19) rfl ?_
  intro v6 T6 L6 X6 q6
  obtain ⟨rfl, e6, rfl⟩ := q6
  have N7 := Fr.app N5 (Fr.nil n0)
  show Goes _ _ p e below s _ _ _ (T6.setTop (mkF m 19 #[.val (.ref a1), .val (.ref y1), .val .null, .val (.ref r), .val (.int (4 : Int32))] [(.int (1 : Int32))]))
  refine o_ifN X6 hx (hb hby d_jdk_42_method_150_code_19) (XT.i0_eq_f (by decide)) (n := 22) rfl ?_
  refine o_aloadN X6 hx (hb hby d_jdk_42_method_150_code_22) (v := (.ref a1)) rfl rfl (n := 23) rfl ?_
  refine o_iconst X6 hx (hb hby d_jdk_42_method_150_code_23) (v := (0 : Int32)) rfl (n := 24) rfl ?_
  refine o_putfield X6 hx hZ hown (host := "") (Or.inl (hw _ (List.mem_of_getElem? (i := 26) rfl))) Via.refl e6 pF_a1_coder pE_a1 (Or.inr ⟨(hw _ (List.mem_of_getElem? (i := 27) rfl)), rfl, hnm⟩) (hw _ (List.mem_of_getElem? (i := 2) rfl)) (ty := .byte) (by decide) rfl rfl (hb hby d_jdk_42_method_150_code_24) (n := 27) rfl ?_
  intro T8 h8 X8 e8 W8 F8 E_8
  have f9 := pF_a1_value.other W8 (Or.inr (slot_ne (Or.inr (hw _ (List.mem_of_getElem? (i := 29) rfl))) (Or.inr (hw _ (List.mem_of_getElem? (i := 27) rfl))) (by decide) (t := (.array .byte)) (t' := .byte) (by decide) (by decide)))
  have f10 := pE_y1.wr W8
  have f11 := pF_y1_value.other W8 (Or.inl (Ne.symm pne_a1_y1))
  have f12 := pF_y1_coder.other W8 (Or.inl (Ne.symm pne_a1_y1))
  have f13 := pF_y1_count.other W8 (Or.inl (Ne.symm pne_a1_y1))
  have f14 := pV_r.other W8 (Ne.symm pne_a1_r)
  have f15 := pS_COMPACT_STRINGS.wr W8
  have zz8 : n0 ≤ h8.size := Nat.le_trans Z0 (Nat.le_of_eq W8.size.symm)
  have N16 := Fr.snoc X8 N7 pg_a1
  have K17 : Keep h0 h8 [a1] := (Keep.refl h0 [a1]).wr W8 (Or.inl (List.mem_of_getElem? (i := 0) rfl))
  refine o_aloadN X8 hx (hb hby d_jdk_42_method_150_code_27) (v := (.ref a1)) rfl rfl (n := 28) rfl ?_
  refine o_aloadN X8 hx (hb hby d_jdk_42_method_150_code_28) (v := (.ref r)) rfl rfl (n := 29) rfl ?_
  refine o_iconst X8 hx (hb hby d_jdk_42_method_150_code_29) (v := (0 : Int32)) rfl (n := 30) rfl ?_
  refine o_iload X8 hx (hb hby d_jdk_42_method_150_code_30) (v := (4 : Int32)) rfl (n := 32) rfl ?_
  refine o_callS X8 hx hZ hown (hw _ (List.mem_of_getElem? (i := 180) rfl)) (hw _ (List.mem_of_getElem? (i := 181) rfl)) (hw _ (List.mem_of_getElem? (i := 182) rfl)) (hw _ (List.mem_of_getElem? (i := 183) rfl)) (by decide) e8 (argsL := [(.ref r), (.int (0 : Int32)), (.int (4 : Int32))]) (rest := [(.ref a1)]) (c_cr4 l Z a0 hw r kr d0 d1 d2 d3 h8 n0 zz8 f14) 1 (by decide) (by decide) (by decide) (by decide) (by rw [hml]; rfl) (lenOf o_pd18 rfl) rfl (Nat.le_of_eq rfl) (hb hby d_jdk_42_method_150_code_32) (n := 35) rfl ?_
  intro v18 T18 L18 X18 q18
  obtain ⟨n1_18, kn_18, rfl, Nq18, K18, sq18_n1, o18_0⟩ := q18
  have N19 := Fr.app N16 Nq18
  have ne20 : a1 ≠ n1_18 := Nat.ne_of_lt (Nat.lt_of_lt_of_le E_8.lt sq18_n1)
  have ne21 : y1 ≠ n1_18 := Nat.ne_of_lt (Nat.lt_of_lt_of_le f10.lt sq18_n1)
  have ne22 : r ≠ n1_18 := Nat.ne_of_lt (Nat.lt_of_lt_of_le f14.lt sq18_n1)
  have gg18_n1 : n0 ≤ n1_18 := Nat.le_trans zz8 sq18_n1
  have sz18_n1 : h0.size ≤ n1_18 := Nat.le_trans K17.1 sq18_n1
  have f23 := E_8.keep K18
  have f24 := F8.keep K18 nin0
  have f25 := f9.keep K18 nin0
  have f26 := f10.keep K18
  have f27 := f11.keep K18 nin0
  have f28 := f12.keep K18 nin0
  have f29 := f13.keep K18 nin0
  have f30 := f14.keep K18 nin0
  have f31 := o_sta_keep f15 K18 all0
  have zz18 : n0 ≤ T18.heap.size := Nat.le_trans zz8 K18.1
  have K32 : Keep h0 T18.heap [a1] := K17.trans K18 all0
  show Goes _ _ p e below s _ _ _ (T18.setTop (mkF m 35 #[.val (.ref a1), .val (.ref y1), .val .null, .val (.ref r), .val (.int (4 : Int32))] [(.ref n1_18), (.ref a1)]))
  refine o_putfield X18 hx hZ hown (host := "") (Or.inl (hw _ (List.mem_of_getElem? (i := 28) rfl))) Via.refl (rfl : T18.heap = T18.heap) f25 f23 (Or.inr ⟨(hw _ (List.mem_of_getElem? (i := 29) rfl)), rfl, hnm⟩) (hw _ (List.mem_of_getElem? (i := 2) rfl)) (ty := (.array .byte)) (by decide) rfl rfl (hb hby d_jdk_42_method_150_code_35) (n := 38) rfl ?_
  intro T33 h33 X33 e33 W33 F33 E_33
  have f34 := f24.other W33 (Or.inr (slot_ne (Or.inr (hw _ (List.mem_of_getElem? (i := 27) rfl))) (Or.inr (hw _ (List.mem_of_getElem? (i := 29) rfl))) (by decide) (t := .byte) (t' := (.array .byte)) (by decide) (by decide)))
  have f35 := f26.wr W33
  have f36 := f27.other W33 (Or.inl (Ne.symm pne_a1_y1))
  have f37 := f28.other W33 (Or.inl (Ne.symm pne_a1_y1))
  have f38 := f29.other W33 (Or.inl (Ne.symm pne_a1_y1))
  have f39 := f30.other W33 (Ne.symm pne_a1_r)
  have f40 := f31.wr W33
  have f41 := o18_0.other W33 (Ne.symm ne20)
  have zz33 : n0 ≤ h33.size := Nat.le_trans zz18 (Nat.le_of_eq W33.size.symm)
  have N42 := Fr.snoc X33 N19 pg_a1
  have K43 : Keep h0 h33 [a1] := K32.wr W33 (Or.inl (List.mem_of_getElem? (i := 0) rfl))
  refine o_goto X33 hx (hb hby d_jdk_42_method_150_code_38) (by decide) (n := 97) (by decide) ?_
  exact o_return X33 hx hret hlk (hb hby d_jdk_42_method_150_code_97) (by decide) (by decide) e33 ⟨n1_18, kn_18, rfl, N42, K43, sz18_n1, E_33, f34, F33, f41⟩
theorem o_ef70 (m : MethodId) (a1 : Addr) (y1 : Addr) : entryFrame m #[(.ref a1), (.ref y1)] 2 = mkF m 0 #[.val (.ref a1), .val (.ref y1)] [] := by first | (simp [entryFrame, mkF, argsToLocals, Value.category]; done) | rfl
set_option maxRecDepth 65536 in
set_option maxHeartbeats 40000000 in
theorem c_ts2_4 (l : Launch) (Z : State) (a0 : Array Value) (hw : ∀ d ∈ tables_1, d.before a0 Z = true) (a1 : Addr) (y1 : Addr) (r : Addr) (kr : ClassId) (cs : Int32) (d0 : Int32) (d1 : Int32) (d2 : Int32) (d3 : Int32) (h0 : Heap) (n0 : Nat) (Z0 : n0 ≤ h0.size) (pg_a1 : n0 ≤ a1) (pE_a1 : Exa Z h0 a1 "java/lang/String") (pF_a1_coder : Fld Z h0 a1 "java/lang/String" "coder" "B" (.int (0 : Int32))) (pF_a1_value : Fld Z h0 a1 "java/lang/String" "value" "[B" .null) (pE_y1 : Exa Z h0 y1 "java/lang/StringBuilder") (pF_y1_value : Fld Z h0 y1 "java/lang/AbstractStringBuilder" "value" "[B" (.ref r)) (pF_y1_coder : Fld Z h0 y1 "java/lang/AbstractStringBuilder" "coder" "B" (.int (0 : Int32))) (pF_y1_count : Fld Z h0 y1 "java/lang/AbstractStringBuilder" "count" "I" (.int (4 : Int32))) (pV_r : Arv Z h0 r kr .byte (16 : Int32) [(.int d0), (.int d1), (.int d2), (.int d3), (.int (0 : Int32)), (.int (0 : Int32)), (.int (0 : Int32)), (.int (0 : Int32)), (.int (0 : Int32)), (.int (0 : Int32)), (.int (0 : Int32)), (.int (0 : Int32)), (.int (0 : Int32)), (.int (0 : Int32)), (.int (0 : Int32)), (.int (0 : Int32))] (.int (0 : Int32))) (pS_COMPACT_STRINGS : Sta Z h0 "java/lang/String" "COMPACT_STRINGS" "Z" (.int cs)) (pne_a1_y1 : a1 ≠ y1) (pne_a1_r : a1 ≠ r) (hcs : ¬ cs = (0 : Int32)) :
    Does l Z (⟨"java/lang/String", "<init>", "(Ljava/lang/StringBuilder;)V"⟩ : MethodName) jdk_42_method_53_code 2 none [] ({ frames := 4, cells := 1, slots := 4, locals := 65 } : Room) #[(.ref a1), (.ref y1)] h0 (fun v h L => ∃ (n1 : Addr) (kn : ClassId), v = none ∧ Fr n0 L ∧ Keep h0 h [a1] ∧ h0.size ≤ n1 ∧ Exa Z h a1 "java/lang/String" ∧ Fld Z h a1 "java/lang/String" "coder" "B" (.int (0 : Int32)) ∧ Fld Z h a1 "java/lang/String" "value" "[B" (.ref n1) ∧ Arv Z h n1 kn .byte (4 : Int32) [(.int d0), (.int d1), (.int d2), (.int d3)] (.int (0 : Int32))) := by
  refine Does.of (plainFor_of_name o_pn1) ?_
  intro p e s m below meth c T0 hx hby hml hown hnm hret hlk hZ X0 e0
  have hown : s.vm.findClass "java/lang/String" = some m.cls := hown
  have hml : c.maxLocals = 2 := hml
  have hret : meth.sig.returnType = none := hret
  refine o_entry (o_ef70 m a1 y1) ?_
  have N0 := Fr.nil n0
  refine o_aloadN X0 hx (hb hby d_jdk_42_method_53_code_0) (v := (.ref a1)) rfl rfl (n := 1) rfl ?_
  refine o_aloadN X0 hx (hb hby d_jdk_42_method_53_code_1) (v := (.ref y1)) rfl rfl (n := 2) rfl ?_
  refine o_aconst_null X0 hx (hb hby d_jdk_42_method_53_code_2) (n := 3) rfl ?_
  refine o_callN X0 hx hZ rfl hown (hw _ (List.mem_of_getElem? (i := 159) rfl)) (hw _ (List.mem_of_getElem? (i := 160) rfl)) (hw _ (List.mem_of_getElem? (i := 3) rfl)) (hw _ (List.mem_of_getElem? (i := 161) rfl)) (by decide) e0 (a := a1) (argsL := [(.ref y1), .null]) (rest := []) (c_ts1_4 l Z a0 hw a1 y1 r kr cs d0 d1 d2 d3 h0 n0 Z0 pg_a1 pE_a1 pF_a1_coder pF_a1_value pE_y1 pF_y1_value pF_y1_coder pF_y1_count pV_r pS_COMPACT_STRINGS pne_a1_y1 pne_a1_r hcs) 0 (by decide) (by decide) (by decide) (by decide) (by rw [hml]; rfl) (lenOf o_pd21 rfl) rfl (Nat.le_of_eq rfl) (hb hby d_jdk_42_method_53_code_3) (n := 6) rfl ?_
  intro v1 T1 L1 X1 q1
  obtain ⟨n1_1, kn_1, rfl, Nq1, K1, sq1_n1, o1_0, o1_1, o1_2, o1_3⟩ := q1
  have N2 := Fr.app N0 Nq1
  have ne3 : a1 ≠ n1_1 := Nat.ne_of_lt (Nat.lt_of_lt_of_le pE_a1.lt sq1_n1)
  have ne4 : y1 ≠ n1_1 := Nat.ne_of_lt (Nat.lt_of_lt_of_le pE_y1.lt sq1_n1)
  have ne5 : r ≠ n1_1 := Nat.ne_of_lt (Nat.lt_of_lt_of_le pV_r.lt sq1_n1)
  have gg1_n1 : n0 ≤ n1_1 := Nat.le_trans Z0 sq1_n1
  have sz1_n1 : h0.size ≤ n1_1 := Nat.le_trans (Keep.refl h0 [a1]).1 sq1_n1
  have f6 := pE_a1.keep K1
  have f9 := pE_y1.keep K1
  have f10 := pF_y1_value.keep K1 (ninS (Ne.symm pne_a1_y1) nin0)
  have f11 := pF_y1_coder.keep K1 (ninS (Ne.symm pne_a1_y1) nin0)
  have f12 := pF_y1_count.keep K1 (ninS (Ne.symm pne_a1_y1) nin0)
  have f13 := pV_r.keep K1 (ninS (Ne.symm pne_a1_r) nin0)
  have f14 := o_sta_keep pS_COMPACT_STRINGS K1 (allS (P := fun a => ∀ cl : Cell, h0[a]? = some cl → cl.vm.isStatics = false) (o_exa_ns pE_a1) all0)
  have zz1 : n0 ≤ T1.heap.size := Nat.le_trans Z0 K1.1
  have K15 : Keep h0 T1.heap [a1] := (Keep.refl h0 [a1]).trans K1 (allS (P := fun x => x ∈ [a1] ∨ h0.size ≤ x) (Or.inl (List.mem_of_getElem? (i := 0) rfl)) all0)
  show Goes _ _ p e below s _ _ _ (T1.setTop (mkF m 6 #[.val (.ref a1), .val (.ref y1)] []))
  exact o_return X1 hx hret hlk (hb hby d_jdk_42_method_53_code_6) (by decide) (by decide) (rfl : T1.heap = T1.heap) ⟨n1_1, kn_1, rfl, N2, K15, sz1_n1, o1_0, o1_1, o1_2, o1_3⟩
theorem o_ef71 (m : MethodId) (y1 : Addr) : entryFrame m #[(.ref y1)] 1 = mkF m 0 #[.val (.ref y1)] [] := by first | (simp [entryFrame, mkF, argsToLocals, Value.category]; done) | rfl
set_option maxRecDepth 65536 in
set_option maxHeartbeats 40000000 in
theorem c_ts3_4 (l : Launch) (Z : State) (a0 : Array Value) (hw : ∀ d ∈ tables_1, d.before a0 Z = true) (y1 : Addr) (r : Addr) (kr : ClassId) (cs : Int32) (d0 : Int32) (d1 : Int32) (d2 : Int32) (d3 : Int32) (h0 : Heap) (n0 : Nat) (Z0 : n0 ≤ h0.size) (pE_y1 : Exa Z h0 y1 "java/lang/StringBuilder") (pF_y1_value : Fld Z h0 y1 "java/lang/AbstractStringBuilder" "value" "[B" (.ref r)) (pF_y1_coder : Fld Z h0 y1 "java/lang/AbstractStringBuilder" "coder" "B" (.int (0 : Int32))) (pF_y1_count : Fld Z h0 y1 "java/lang/AbstractStringBuilder" "count" "I" (.int (4 : Int32))) (pV_r : Arv Z h0 r kr .byte (16 : Int32) [(.int d0), (.int d1), (.int d2), (.int d3), (.int (0 : Int32)), (.int (0 : Int32)), (.int (0 : Int32)), (.int (0 : Int32)), (.int (0 : Int32)), (.int (0 : Int32)), (.int (0 : Int32)), (.int (0 : Int32)), (.int (0 : Int32)), (.int (0 : Int32)), (.int (0 : Int32)), (.int (0 : Int32))] (.int (0 : Int32))) (pS_COMPACT_STRINGS : Sta Z h0 "java/lang/String" "COMPACT_STRINGS" "Z" (.int cs)) (hcs : ¬ cs = (0 : Int32)) :
    Does l Z (⟨"java/lang/StringBuilder", "toString", "()Ljava/lang/String;"⟩ : MethodName) jdk_67_method_42_code 1 (some (.object "java/lang/String")) [] ({ frames := 5, cells := 2, slots := 8, locals := 79 } : Room) #[(.ref y1)] h0 (fun v h L => ∃ (s1 : Addr), ∃ (n1 : Addr) (kn : ClassId), v = some (.ref s1) ∧ Fr n0 L ∧ Keep h0 h [] ∧ h0.size ≤ s1 ∧ h0.size ≤ n1 ∧ Exa Z h s1 "java/lang/String" ∧ Fld Z h s1 "java/lang/String" "coder" "B" (.int (0 : Int32)) ∧ Fld Z h s1 "java/lang/String" "value" "[B" (.ref n1) ∧ Arv Z h n1 kn .byte (4 : Int32) [(.int d0), (.int d1), (.int d2), (.int d3)] (.int (0 : Int32))) := by
  refine Does.of (plainFor_of_name o_pn7) ?_
  intro p e s m below meth c T0 hx hby hml hown hnm hret hlk hZ X0 e0
  have hown : s.vm.findClass "java/lang/StringBuilder" = some m.cls := hown
  have hml : c.maxLocals = 1 := hml
  have hret : meth.sig.returnType = some (.object "java/lang/String") := hret
  refine o_entry (o_ef71 m y1) ?_
  have N0 := Fr.nil n0
  refine o_new X0 hx hZ hown (hw _ (List.mem_of_getElem? (i := 155) rfl)) (hw _ (List.mem_of_getElem? (i := 2) rfl)) (hw _ (List.mem_of_getElem? (i := 3) rfl)) e0 (hb hby d_jdk_67_method_42_code_0) (by decide) (by decide) (n := 3) rfl ?_
  intro T1 h1 b1 X1 e1 g1 E1 A1 D1
  have ne2 : y1 ≠ b1 := Nat.ne_of_lt (Nat.lt_of_lt_of_eq pE_y1.lt g1.symm)
  have ne3 : r ≠ b1 := Nat.ne_of_lt (Nat.lt_of_lt_of_eq pV_r.lt g1.symm)
  have gg1 : n0 ≤ b1 := Nat.le_trans Z0 (Nat.le_of_eq g1.symm)
  have zz1 : n0 ≤ h1.size := Nat.le_trans Z0 E1.1
  have sz1 : h0.size ≤ b1 := Nat.le_trans (Keep.refl h0 []).1 (Nat.le_of_eq g1.symm)
  have f4 := pE_y1.ext E1
  have f5 := pF_y1_value.ext E1
  have f6 := pF_y1_coder.ext E1
  have f7 := pF_y1_count.ext E1
  have f8 := pV_r.ext E1
  have f9 := pS_COMPACT_STRINGS.ext E1
  have K10 : Keep h0 h1 [] := (Keep.refl h0 []).ext E1
  have f11 : Fld Z h1 b1 "java/lang/String" "coder" "B" (.int (0 : Int32)) := D1 (Or.inr (hw _ (List.mem_of_getElem? (i := 27) rfl))) (ty := .byte) (by decide)
  have f12 : Fld Z h1 b1 "java/lang/String" "value" "[B" .null := D1 (Or.inr (hw _ (List.mem_of_getElem? (i := 29) rfl))) (ty := (.array .byte)) (by decide)
  refine o_dup X1 hx (hb hby d_jdk_67_method_42_code_3) rfl (n := 4) rfl ?_
  refine o_aloadN X1 hx (hb hby d_jdk_67_method_42_code_4) (v := (.ref y1)) rfl rfl (n := 5) rfl ?_
  refine o_callN X1 hx hZ rfl hown (hw _ (List.mem_of_getElem? (i := 156) rfl)) (hw _ (List.mem_of_getElem? (i := 157) rfl)) (hw _ (List.mem_of_getElem? (i := 3) rfl)) (hw _ (List.mem_of_getElem? (i := 158) rfl)) (by decide) e1 (a := b1) (argsL := [(.ref y1)]) (rest := [(.ref b1)]) (c_ts2_4 l Z a0 hw b1 y1 r kr cs d0 d1 d2 d3 h1 n0 zz1 gg1 A1 f11 f12 f4 f5 f6 f7 f8 f9 (Ne.symm ne2) (Ne.symm ne3) hcs) 1 (by decide) (by decide) (by decide) (by decide) (by rw [hml]; rfl) (lenOf o_pd22 rfl) rfl (Nat.le_of_eq rfl) (hb hby d_jdk_67_method_42_code_5) (n := 8) rfl ?_
  intro v13 T13 L13 X13 q13
  obtain ⟨n1_13, kn_13, rfl, Nq13, K13, sq13_n1, o13_0, o13_1, o13_2, o13_3⟩ := q13
  have N14 := Fr.app N0 Nq13
  have ne15 : y1 ≠ n1_13 := Nat.ne_of_lt (Nat.lt_of_lt_of_le f4.lt sq13_n1)
  have ne16 : r ≠ n1_13 := Nat.ne_of_lt (Nat.lt_of_lt_of_le f8.lt sq13_n1)
  have ne17 : b1 ≠ n1_13 := Nat.ne_of_lt (Nat.lt_of_lt_of_le A1.lt sq13_n1)
  have gg13_n1 : n0 ≤ n1_13 := Nat.le_trans zz1 sq13_n1
  have sz13_n1 : h0.size ≤ n1_13 := Nat.le_trans K10.1 sq13_n1
  have f18 := f4.keep K13
  have f19 := f5.keep K13 (ninS ne2 nin0)
  have f20 := f6.keep K13 (ninS ne2 nin0)
  have f21 := f7.keep K13 (ninS ne2 nin0)
  have f22 := f8.keep K13 (ninS ne3 nin0)
  have f23 := o_sta_keep f9 K13 (allS (P := fun a => ∀ cl : Cell, h1[a]? = some cl → cl.vm.isStatics = false) (o_exa_ns A1) all0)
  have f24 := A1.keep K13
  have zz13 : n0 ≤ T13.heap.size := Nat.le_trans zz1 K13.1
  have K27 : Keep h0 T13.heap [] := K10.trans K13 (allS (P := fun x => x ∈ [] ∨ h0.size ≤ x) (Or.inr sz1) all0)
  show Goes _ _ p e below s _ _ _ (T13.setTop (mkF m 8 #[.val (.ref y1)] [(.ref b1)]))
  exact o_areturn X13 hx hret hlk rfl rfl (hb hby d_jdk_67_method_42_code_8) (by decide) (by decide) (rfl : T13.heap = T13.heap) ⟨b1, n1_13, kn_13, rfl, N14, K27, sz1, sz13_n1, o13_0, o13_1, o13_2, o13_3⟩
theorem o_ef72 (m : MethodId) (a1 : Addr) (y1 : Addr) : entryFrame m #[(.ref a1), (.ref y1), .null] 5 = mkF m 0 #[.val (.ref a1), .val (.ref y1), .val .null, .unset, .unset] [] := by first | (simp [entryFrame, mkF, argsToLocals, Value.category]; done) | rfl
set_option maxRecDepth 65536 in
set_option maxHeartbeats 40000000 in
theorem c_ts1_5 (l : Launch) (Z : State) (a0 : Array Value) (hw : ∀ d ∈ tables_1, d.before a0 Z = true) (a1 : Addr) (y1 : Addr) (r : Addr) (kr : ClassId) (cs : Int32) (d0 : Int32) (d1 : Int32) (d2 : Int32) (d3 : Int32) (d4 : Int32) (h0 : Heap) (n0 : Nat) (Z0 : n0 ≤ h0.size) (pg_a1 : n0 ≤ a1) (pE_a1 : Exa Z h0 a1 "java/lang/String") (pF_a1_coder : Fld Z h0 a1 "java/lang/String" "coder" "B" (.int (0 : Int32))) (pF_a1_value : Fld Z h0 a1 "java/lang/String" "value" "[B" .null) (pE_y1 : Exa Z h0 y1 "java/lang/StringBuilder") (pF_y1_value : Fld Z h0 y1 "java/lang/AbstractStringBuilder" "value" "[B" (.ref r)) (pF_y1_coder : Fld Z h0 y1 "java/lang/AbstractStringBuilder" "coder" "B" (.int (0 : Int32))) (pF_y1_count : Fld Z h0 y1 "java/lang/AbstractStringBuilder" "count" "I" (.int (5 : Int32))) (pV_r : Arv Z h0 r kr .byte (16 : Int32) [(.int d0), (.int d1), (.int d2), (.int d3), (.int d4), (.int (0 : Int32)), (.int (0 : Int32)), (.int (0 : Int32)), (.int (0 : Int32)), (.int (0 : Int32)), (.int (0 : Int32)), (.int (0 : Int32)), (.int (0 : Int32)), (.int (0 : Int32)), (.int (0 : Int32)), (.int (0 : Int32))] (.int (0 : Int32))) (pS_COMPACT_STRINGS : Sta Z h0 "java/lang/String" "COMPACT_STRINGS" "Z" (.int cs)) (pne_a1_y1 : a1 ≠ y1) (pne_a1_r : a1 ≠ r) (hcs : ¬ cs = (0 : Int32)) :
    Does l Z (⟨"java/lang/String", "<init>", "(Ljava/lang/AbstractStringBuilder;Ljava/lang/Void;)V"⟩ : MethodName) jdk_42_method_150_code 5 none [] ({ frames := 3, cells := 1, slots := 5, locals := 49 } : Room) #[(.ref a1), (.ref y1), .null] h0 (fun v h L => ∃ (n1 : Addr) (kn : ClassId), v = none ∧ Fr n0 L ∧ Keep h0 h [a1] ∧ h0.size ≤ n1 ∧ Exa Z h a1 "java/lang/String" ∧ Fld Z h a1 "java/lang/String" "coder" "B" (.int (0 : Int32)) ∧ Fld Z h a1 "java/lang/String" "value" "[B" (.ref n1) ∧ Arv Z h n1 kn .byte (5 : Int32) [(.int d0), (.int d1), (.int d2), (.int d3), (.int d4)] (.int (0 : Int32))) := by
  refine Does.of (plainFor_of_name o_pn1) ?_
  intro p e s m below meth c T0 hx hby hml hown hnm hret hlk hZ X0 e0
  have hown : s.vm.findClass "java/lang/String" = some m.cls := hown
  have hml : c.maxLocals = 5 := hml
  have hret : meth.sig.returnType = none := hret
  refine o_entry (o_ef72 m a1 y1) ?_
  have N0 := Fr.nil n0
  refine o_aloadN X0 hx (hb hby d_jdk_42_method_150_code_0) (v := (.ref a1)) rfl rfl (n := 1) rfl ?_
  refine o_initO X0 hx hZ hown (hw _ (List.mem_of_getElem? (i := 11) rfl)) (hw _ (List.mem_of_getElem? (i := 12) rfl)) (hw _ (List.mem_of_getElem? (i := 13) rfl)) e0 (by rw [hml]; rfl) (hb hby d_jdk_42_method_150_code_1) (by decide) 0 (Nat.le_of_eq rfl) (by decide) (n := 4) rfl ?_
  intro T1 X1 e1
  refine o_aloadN X1 hx (hb hby d_jdk_42_method_150_code_4) (v := (.ref y1)) rfl rfl (n := 5) rfl ?_
  refine o_callV X1 hx hZ hown (hw _ (List.mem_of_getElem? (i := 162) rfl)) (hw _ (List.mem_of_getElem? (i := 163) rfl)) (hw _ (List.mem_of_getElem? (i := 165) rfl)) (hw _ (List.mem_of_getElem? (i := 164) rfl)) (hw _ (List.mem_of_getElem? (i := 92) rfl)) (hw _ (List.mem_of_getElem? (i := 166) rfl)) (by decide) e1 pE_y1 (argsL := []) (rest := []) (c_gv l Z a0 hw y1 r h0 pF_y1_value) 0 (by decide) (by decide) (by decide) (by decide) (by rw [hml]; rfl) (lenOf o_pd19 rfl) rfl (Nat.le_of_eq rfl) (hb hby d_jdk_42_method_150_code_5) (n := 8) rfl ?_
  intro v2 T2 L2 X2 q2
  obtain ⟨rfl, e2, rfl⟩ := q2
  have N3 := Fr.app N0 (Fr.nil n0)
  show Goes _ _ p e below s _ _ _ (T2.setTop (mkF m 8 #[.val (.ref a1), .val (.ref y1), .val .null, .unset, .unset] [(.ref r)]))
  refine o_astoreN X2 hx (hb hby d_jdk_42_method_150_code_8) rfl (Ls' := #[.val (.ref a1), .val (.ref y1), .val .null, .val (.ref r), .unset]) rfl (n := 9) rfl ?_
  refine o_aloadN X2 hx (hb hby d_jdk_42_method_150_code_9) (v := (.ref y1)) rfl rfl (n := 10) rfl ?_
  refine o_callVO X2 hx hZ hown (hw _ (List.mem_of_getElem? (i := 167) rfl)) (hw _ (List.mem_of_getElem? (i := 168) rfl)) (hw _ (List.mem_of_getElem? (i := 170) rfl)) (hw _ (List.mem_of_getElem? (i := 171) rfl)) (Or.inr (o_nface hZ (hw _ (List.mem_of_getElem? (i := 165) rfl)) rfl)) (hw _ (List.mem_of_getElem? (i := 84) rfl)) (hw _ (List.mem_of_getElem? (i := 172) rfl)) (by decide) e2 pE_y1 (argsL := []) (rest := []) (c_sbl l Z a0 hw y1 (5 : Int32) h0 pE_y1 pF_y1_count) 0 (by decide) (by decide) (by decide) (by decide) (by rw [hml]; rfl) (lenOf o_pd13 rfl) rfl (Nat.le_of_eq rfl) (hb hby d_jdk_42_method_150_code_10) (n := 13) rfl ?_
  intro v4 T4 L4 X4 q4
  obtain ⟨rfl, e4, rfl⟩ := q4
  have N5 := Fr.app N3 (Fr.nil n0)
  show Goes _ _ p e below s _ _ _ (T4.setTop (mkF m 13 #[.val (.ref a1), .val (.ref y1), .val .null, .val (.ref r), .unset] [(.int (5 : Int32))]))
  refine o_istore X4 hx (hb hby d_jdk_42_method_150_code_13) (Ls' := #[.val (.ref a1), .val (.ref y1), .val .null, .val (.ref r), .val (.int (5 : Int32))]) rfl (n := 15) rfl ?_
  refine o_aloadN X4 hx (hb hby d_jdk_42_method_150_code_15) (v := (.ref y1)) rfl rfl (n := 16) rfl ?_
  refine o_callV X4 hx hZ hown (hw _ (List.mem_of_getElem? (i := 175) rfl)) (hw _ (List.mem_of_getElem? (i := 176) rfl)) (hw _ (List.mem_of_getElem? (i := 178) rfl)) (hw _ (List.mem_of_getElem? (i := 177) rfl)) (hw _ (List.mem_of_getElem? (i := 92) rfl)) (hw _ (List.mem_of_getElem? (i := 179) rfl)) (by decide) e4 pE_y1 (argsL := []) (rest := []) (c_isl l Z a0 hw y1 cs h0 pF_y1_coder pS_COMPACT_STRINGS hcs) 0 (by decide) (by decide) (by decide) (by decide) (by rw [hml]; rfl) (lenOf o_pd20 rfl) rfl (Nat.le_of_eq rfl) (hb hby d_jdk_42_method_150_code_16) (n := 19) rfl ?_
  intro v6 T6 L6 X6 q6
  obtain ⟨rfl, e6, rfl⟩ := q6
  have N7 := Fr.app N5 (Fr.nil n0)
  show Goes _ _ p e below s _ _ _ (T6.setTop (mkF m 19 #[.val (.ref a1), .val (.ref y1), .val .null, .val (.ref r), .val (.int (5 : Int32))] [(.int (1 : Int32))]))
  refine o_ifN X6 hx (hb hby d_jdk_42_method_150_code_19) (XT.i0_eq_f (by decide)) (n := 22) rfl ?_
  refine o_aloadN X6 hx (hb hby d_jdk_42_method_150_code_22) (v := (.ref a1)) rfl rfl (n := 23) rfl ?_
  refine o_iconst X6 hx (hb hby d_jdk_42_method_150_code_23) (v := (0 : Int32)) rfl (n := 24) rfl ?_
  refine o_putfield X6 hx hZ hown (host := "") (Or.inl (hw _ (List.mem_of_getElem? (i := 26) rfl))) Via.refl e6 pF_a1_coder pE_a1 (Or.inr ⟨(hw _ (List.mem_of_getElem? (i := 27) rfl)), rfl, hnm⟩) (hw _ (List.mem_of_getElem? (i := 2) rfl)) (ty := .byte) (by decide) rfl rfl (hb hby d_jdk_42_method_150_code_24) (n := 27) rfl ?_
  intro T8 h8 X8 e8 W8 F8 E_8
  have f9 := pF_a1_value.other W8 (Or.inr (slot_ne (Or.inr (hw _ (List.mem_of_getElem? (i := 29) rfl))) (Or.inr (hw _ (List.mem_of_getElem? (i := 27) rfl))) (by decide) (t := (.array .byte)) (t' := .byte) (by decide) (by decide)))
  have f10 := pE_y1.wr W8
  have f11 := pF_y1_value.other W8 (Or.inl (Ne.symm pne_a1_y1))
  have f12 := pF_y1_coder.other W8 (Or.inl (Ne.symm pne_a1_y1))
  have f13 := pF_y1_count.other W8 (Or.inl (Ne.symm pne_a1_y1))
  have f14 := pV_r.other W8 (Ne.symm pne_a1_r)
  have f15 := pS_COMPACT_STRINGS.wr W8
  have zz8 : n0 ≤ h8.size := Nat.le_trans Z0 (Nat.le_of_eq W8.size.symm)
  have N16 := Fr.snoc X8 N7 pg_a1
  have K17 : Keep h0 h8 [a1] := (Keep.refl h0 [a1]).wr W8 (Or.inl (List.mem_of_getElem? (i := 0) rfl))
  refine o_aloadN X8 hx (hb hby d_jdk_42_method_150_code_27) (v := (.ref a1)) rfl rfl (n := 28) rfl ?_
  refine o_aloadN X8 hx (hb hby d_jdk_42_method_150_code_28) (v := (.ref r)) rfl rfl (n := 29) rfl ?_
  refine o_iconst X8 hx (hb hby d_jdk_42_method_150_code_29) (v := (0 : Int32)) rfl (n := 30) rfl ?_
  refine o_iload X8 hx (hb hby d_jdk_42_method_150_code_30) (v := (5 : Int32)) rfl (n := 32) rfl ?_
  refine o_callS X8 hx hZ hown (hw _ (List.mem_of_getElem? (i := 180) rfl)) (hw _ (List.mem_of_getElem? (i := 181) rfl)) (hw _ (List.mem_of_getElem? (i := 182) rfl)) (hw _ (List.mem_of_getElem? (i := 183) rfl)) (by decide) e8 (argsL := [(.ref r), (.int (0 : Int32)), (.int (5 : Int32))]) (rest := [(.ref a1)]) (c_cr5 l Z a0 hw r kr d0 d1 d2 d3 d4 h8 n0 zz8 f14) 1 (by decide) (by decide) (by decide) (by decide) (by rw [hml]; rfl) (lenOf o_pd18 rfl) rfl (Nat.le_of_eq rfl) (hb hby d_jdk_42_method_150_code_32) (n := 35) rfl ?_
  intro v18 T18 L18 X18 q18
  obtain ⟨n1_18, kn_18, rfl, Nq18, K18, sq18_n1, o18_0⟩ := q18
  have N19 := Fr.app N16 Nq18
  have ne20 : a1 ≠ n1_18 := Nat.ne_of_lt (Nat.lt_of_lt_of_le E_8.lt sq18_n1)
  have ne21 : y1 ≠ n1_18 := Nat.ne_of_lt (Nat.lt_of_lt_of_le f10.lt sq18_n1)
  have ne22 : r ≠ n1_18 := Nat.ne_of_lt (Nat.lt_of_lt_of_le f14.lt sq18_n1)
  have gg18_n1 : n0 ≤ n1_18 := Nat.le_trans zz8 sq18_n1
  have sz18_n1 : h0.size ≤ n1_18 := Nat.le_trans K17.1 sq18_n1
  have f23 := E_8.keep K18
  have f24 := F8.keep K18 nin0
  have f25 := f9.keep K18 nin0
  have f26 := f10.keep K18
  have f27 := f11.keep K18 nin0
  have f28 := f12.keep K18 nin0
  have f29 := f13.keep K18 nin0
  have f30 := f14.keep K18 nin0
  have f31 := o_sta_keep f15 K18 all0
  have zz18 : n0 ≤ T18.heap.size := Nat.le_trans zz8 K18.1
  have K32 : Keep h0 T18.heap [a1] := K17.trans K18 all0
  show Goes _ _ p e below s _ _ _ (T18.setTop (mkF m 35 #[.val (.ref a1), .val (.ref y1), .val .null, .val (.ref r), .val (.int (5 : Int32))] [(.ref n1_18), (.ref a1)]))
  refine o_putfield X18 hx hZ hown (host := "") (Or.inl (hw _ (List.mem_of_getElem? (i := 28) rfl))) Via.refl (rfl : T18.heap = T18.heap) f25 f23 (Or.inr ⟨(hw _ (List.mem_of_getElem? (i := 29) rfl)), rfl, hnm⟩) (hw _ (List.mem_of_getElem? (i := 2) rfl)) (ty := (.array .byte)) (by decide) rfl rfl (hb hby d_jdk_42_method_150_code_35) (n := 38) rfl ?_
  intro T33 h33 X33 e33 W33 F33 E_33
  have f34 := f24.other W33 (Or.inr (slot_ne (Or.inr (hw _ (List.mem_of_getElem? (i := 27) rfl))) (Or.inr (hw _ (List.mem_of_getElem? (i := 29) rfl))) (by decide) (t := .byte) (t' := (.array .byte)) (by decide) (by decide)))
  have f35 := f26.wr W33
  have f36 := f27.other W33 (Or.inl (Ne.symm pne_a1_y1))
  have f37 := f28.other W33 (Or.inl (Ne.symm pne_a1_y1))
  have f38 := f29.other W33 (Or.inl (Ne.symm pne_a1_y1))
  have f39 := f30.other W33 (Ne.symm pne_a1_r)
  have f40 := f31.wr W33
  have f41 := o18_0.other W33 (Ne.symm ne20)
  have zz33 : n0 ≤ h33.size := Nat.le_trans zz18 (Nat.le_of_eq W33.size.symm)
  have N42 := Fr.snoc X33 N19 pg_a1
  have K43 : Keep h0 h33 [a1] := K32.wr W33 (Or.inl (List.mem_of_getElem? (i := 0) rfl))
  refine o_goto X33 hx (hb hby d_jdk_42_method_150_code_38) (by decide) (n := 97) (by decide) ?_
  exact o_return X33 hx hret hlk (hb hby d_jdk_42_method_150_code_97) (by decide) (by decide) e33 ⟨n1_18, kn_18, rfl, N42, K43, sz18_n1, E_33, f34, F33, f41⟩
theorem o_ef73 (m : MethodId) (a1 : Addr) (y1 : Addr) : entryFrame m #[(.ref a1), (.ref y1)] 2 = mkF m 0 #[.val (.ref a1), .val (.ref y1)] [] := by first | (simp [entryFrame, mkF, argsToLocals, Value.category]; done) | rfl
set_option maxRecDepth 65536 in
set_option maxHeartbeats 40000000 in
theorem c_ts2_5 (l : Launch) (Z : State) (a0 : Array Value) (hw : ∀ d ∈ tables_1, d.before a0 Z = true) (a1 : Addr) (y1 : Addr) (r : Addr) (kr : ClassId) (cs : Int32) (d0 : Int32) (d1 : Int32) (d2 : Int32) (d3 : Int32) (d4 : Int32) (h0 : Heap) (n0 : Nat) (Z0 : n0 ≤ h0.size) (pg_a1 : n0 ≤ a1) (pE_a1 : Exa Z h0 a1 "java/lang/String") (pF_a1_coder : Fld Z h0 a1 "java/lang/String" "coder" "B" (.int (0 : Int32))) (pF_a1_value : Fld Z h0 a1 "java/lang/String" "value" "[B" .null) (pE_y1 : Exa Z h0 y1 "java/lang/StringBuilder") (pF_y1_value : Fld Z h0 y1 "java/lang/AbstractStringBuilder" "value" "[B" (.ref r)) (pF_y1_coder : Fld Z h0 y1 "java/lang/AbstractStringBuilder" "coder" "B" (.int (0 : Int32))) (pF_y1_count : Fld Z h0 y1 "java/lang/AbstractStringBuilder" "count" "I" (.int (5 : Int32))) (pV_r : Arv Z h0 r kr .byte (16 : Int32) [(.int d0), (.int d1), (.int d2), (.int d3), (.int d4), (.int (0 : Int32)), (.int (0 : Int32)), (.int (0 : Int32)), (.int (0 : Int32)), (.int (0 : Int32)), (.int (0 : Int32)), (.int (0 : Int32)), (.int (0 : Int32)), (.int (0 : Int32)), (.int (0 : Int32)), (.int (0 : Int32))] (.int (0 : Int32))) (pS_COMPACT_STRINGS : Sta Z h0 "java/lang/String" "COMPACT_STRINGS" "Z" (.int cs)) (pne_a1_y1 : a1 ≠ y1) (pne_a1_r : a1 ≠ r) (hcs : ¬ cs = (0 : Int32)) :
    Does l Z (⟨"java/lang/String", "<init>", "(Ljava/lang/StringBuilder;)V"⟩ : MethodName) jdk_42_method_53_code 2 none [] ({ frames := 4, cells := 1, slots := 5, locals := 65 } : Room) #[(.ref a1), (.ref y1)] h0 (fun v h L => ∃ (n1 : Addr) (kn : ClassId), v = none ∧ Fr n0 L ∧ Keep h0 h [a1] ∧ h0.size ≤ n1 ∧ Exa Z h a1 "java/lang/String" ∧ Fld Z h a1 "java/lang/String" "coder" "B" (.int (0 : Int32)) ∧ Fld Z h a1 "java/lang/String" "value" "[B" (.ref n1) ∧ Arv Z h n1 kn .byte (5 : Int32) [(.int d0), (.int d1), (.int d2), (.int d3), (.int d4)] (.int (0 : Int32))) := by
  refine Does.of (plainFor_of_name o_pn1) ?_
  intro p e s m below meth c T0 hx hby hml hown hnm hret hlk hZ X0 e0
  have hown : s.vm.findClass "java/lang/String" = some m.cls := hown
  have hml : c.maxLocals = 2 := hml
  have hret : meth.sig.returnType = none := hret
  refine o_entry (o_ef73 m a1 y1) ?_
  have N0 := Fr.nil n0
  refine o_aloadN X0 hx (hb hby d_jdk_42_method_53_code_0) (v := (.ref a1)) rfl rfl (n := 1) rfl ?_
  refine o_aloadN X0 hx (hb hby d_jdk_42_method_53_code_1) (v := (.ref y1)) rfl rfl (n := 2) rfl ?_
  refine o_aconst_null X0 hx (hb hby d_jdk_42_method_53_code_2) (n := 3) rfl ?_
  refine o_callN X0 hx hZ rfl hown (hw _ (List.mem_of_getElem? (i := 159) rfl)) (hw _ (List.mem_of_getElem? (i := 160) rfl)) (hw _ (List.mem_of_getElem? (i := 3) rfl)) (hw _ (List.mem_of_getElem? (i := 161) rfl)) (by decide) e0 (a := a1) (argsL := [(.ref y1), .null]) (rest := []) (c_ts1_5 l Z a0 hw a1 y1 r kr cs d0 d1 d2 d3 d4 h0 n0 Z0 pg_a1 pE_a1 pF_a1_coder pF_a1_value pE_y1 pF_y1_value pF_y1_coder pF_y1_count pV_r pS_COMPACT_STRINGS pne_a1_y1 pne_a1_r hcs) 0 (by decide) (by decide) (by decide) (by decide) (by rw [hml]; rfl) (lenOf o_pd21 rfl) rfl (Nat.le_of_eq rfl) (hb hby d_jdk_42_method_53_code_3) (n := 6) rfl ?_
  intro v1 T1 L1 X1 q1
  obtain ⟨n1_1, kn_1, rfl, Nq1, K1, sq1_n1, o1_0, o1_1, o1_2, o1_3⟩ := q1
  have N2 := Fr.app N0 Nq1
  have ne3 : a1 ≠ n1_1 := Nat.ne_of_lt (Nat.lt_of_lt_of_le pE_a1.lt sq1_n1)
  have ne4 : y1 ≠ n1_1 := Nat.ne_of_lt (Nat.lt_of_lt_of_le pE_y1.lt sq1_n1)
  have ne5 : r ≠ n1_1 := Nat.ne_of_lt (Nat.lt_of_lt_of_le pV_r.lt sq1_n1)
  have gg1_n1 : n0 ≤ n1_1 := Nat.le_trans Z0 sq1_n1
  have sz1_n1 : h0.size ≤ n1_1 := Nat.le_trans (Keep.refl h0 [a1]).1 sq1_n1
  have f6 := pE_a1.keep K1
  have f9 := pE_y1.keep K1
  have f10 := pF_y1_value.keep K1 (ninS (Ne.symm pne_a1_y1) nin0)
  have f11 := pF_y1_coder.keep K1 (ninS (Ne.symm pne_a1_y1) nin0)
  have f12 := pF_y1_count.keep K1 (ninS (Ne.symm pne_a1_y1) nin0)
  have f13 := pV_r.keep K1 (ninS (Ne.symm pne_a1_r) nin0)
  have f14 := o_sta_keep pS_COMPACT_STRINGS K1 (allS (P := fun a => ∀ cl : Cell, h0[a]? = some cl → cl.vm.isStatics = false) (o_exa_ns pE_a1) all0)
  have zz1 : n0 ≤ T1.heap.size := Nat.le_trans Z0 K1.1
  have K15 : Keep h0 T1.heap [a1] := (Keep.refl h0 [a1]).trans K1 (allS (P := fun x => x ∈ [a1] ∨ h0.size ≤ x) (Or.inl (List.mem_of_getElem? (i := 0) rfl)) all0)
  show Goes _ _ p e below s _ _ _ (T1.setTop (mkF m 6 #[.val (.ref a1), .val (.ref y1)] []))
  exact o_return X1 hx hret hlk (hb hby d_jdk_42_method_53_code_6) (by decide) (by decide) (rfl : T1.heap = T1.heap) ⟨n1_1, kn_1, rfl, N2, K15, sz1_n1, o1_0, o1_1, o1_2, o1_3⟩
theorem o_ef74 (m : MethodId) (y1 : Addr) : entryFrame m #[(.ref y1)] 1 = mkF m 0 #[.val (.ref y1)] [] := by first | (simp [entryFrame, mkF, argsToLocals, Value.category]; done) | rfl
set_option maxRecDepth 65536 in
set_option maxHeartbeats 40000000 in
theorem c_ts3_5 (l : Launch) (Z : State) (a0 : Array Value) (hw : ∀ d ∈ tables_1, d.before a0 Z = true) (y1 : Addr) (r : Addr) (kr : ClassId) (cs : Int32) (d0 : Int32) (d1 : Int32) (d2 : Int32) (d3 : Int32) (d4 : Int32) (h0 : Heap) (n0 : Nat) (Z0 : n0 ≤ h0.size) (pE_y1 : Exa Z h0 y1 "java/lang/StringBuilder") (pF_y1_value : Fld Z h0 y1 "java/lang/AbstractStringBuilder" "value" "[B" (.ref r)) (pF_y1_coder : Fld Z h0 y1 "java/lang/AbstractStringBuilder" "coder" "B" (.int (0 : Int32))) (pF_y1_count : Fld Z h0 y1 "java/lang/AbstractStringBuilder" "count" "I" (.int (5 : Int32))) (pV_r : Arv Z h0 r kr .byte (16 : Int32) [(.int d0), (.int d1), (.int d2), (.int d3), (.int d4), (.int (0 : Int32)), (.int (0 : Int32)), (.int (0 : Int32)), (.int (0 : Int32)), (.int (0 : Int32)), (.int (0 : Int32)), (.int (0 : Int32)), (.int (0 : Int32)), (.int (0 : Int32)), (.int (0 : Int32)), (.int (0 : Int32))] (.int (0 : Int32))) (pS_COMPACT_STRINGS : Sta Z h0 "java/lang/String" "COMPACT_STRINGS" "Z" (.int cs)) (hcs : ¬ cs = (0 : Int32)) :
    Does l Z (⟨"java/lang/StringBuilder", "toString", "()Ljava/lang/String;"⟩ : MethodName) jdk_67_method_42_code 1 (some (.object "java/lang/String")) [] ({ frames := 5, cells := 2, slots := 9, locals := 79 } : Room) #[(.ref y1)] h0 (fun v h L => ∃ (s1 : Addr), ∃ (n1 : Addr) (kn : ClassId), v = some (.ref s1) ∧ Fr n0 L ∧ Keep h0 h [] ∧ h0.size ≤ s1 ∧ h0.size ≤ n1 ∧ Exa Z h s1 "java/lang/String" ∧ Fld Z h s1 "java/lang/String" "coder" "B" (.int (0 : Int32)) ∧ Fld Z h s1 "java/lang/String" "value" "[B" (.ref n1) ∧ Arv Z h n1 kn .byte (5 : Int32) [(.int d0), (.int d1), (.int d2), (.int d3), (.int d4)] (.int (0 : Int32))) := by
  refine Does.of (plainFor_of_name o_pn7) ?_
  intro p e s m below meth c T0 hx hby hml hown hnm hret hlk hZ X0 e0
  have hown : s.vm.findClass "java/lang/StringBuilder" = some m.cls := hown
  have hml : c.maxLocals = 1 := hml
  have hret : meth.sig.returnType = some (.object "java/lang/String") := hret
  refine o_entry (o_ef74 m y1) ?_
  have N0 := Fr.nil n0
  refine o_new X0 hx hZ hown (hw _ (List.mem_of_getElem? (i := 155) rfl)) (hw _ (List.mem_of_getElem? (i := 2) rfl)) (hw _ (List.mem_of_getElem? (i := 3) rfl)) e0 (hb hby d_jdk_67_method_42_code_0) (by decide) (by decide) (n := 3) rfl ?_
  intro T1 h1 b1 X1 e1 g1 E1 A1 D1
  have ne2 : y1 ≠ b1 := Nat.ne_of_lt (Nat.lt_of_lt_of_eq pE_y1.lt g1.symm)
  have ne3 : r ≠ b1 := Nat.ne_of_lt (Nat.lt_of_lt_of_eq pV_r.lt g1.symm)
  have gg1 : n0 ≤ b1 := Nat.le_trans Z0 (Nat.le_of_eq g1.symm)
  have zz1 : n0 ≤ h1.size := Nat.le_trans Z0 E1.1
  have sz1 : h0.size ≤ b1 := Nat.le_trans (Keep.refl h0 []).1 (Nat.le_of_eq g1.symm)
  have f4 := pE_y1.ext E1
  have f5 := pF_y1_value.ext E1
  have f6 := pF_y1_coder.ext E1
  have f7 := pF_y1_count.ext E1
  have f8 := pV_r.ext E1
  have f9 := pS_COMPACT_STRINGS.ext E1
  have K10 : Keep h0 h1 [] := (Keep.refl h0 []).ext E1
  have f11 : Fld Z h1 b1 "java/lang/String" "coder" "B" (.int (0 : Int32)) := D1 (Or.inr (hw _ (List.mem_of_getElem? (i := 27) rfl))) (ty := .byte) (by decide)
  have f12 : Fld Z h1 b1 "java/lang/String" "value" "[B" .null := D1 (Or.inr (hw _ (List.mem_of_getElem? (i := 29) rfl))) (ty := (.array .byte)) (by decide)
  refine o_dup X1 hx (hb hby d_jdk_67_method_42_code_3) rfl (n := 4) rfl ?_
  refine o_aloadN X1 hx (hb hby d_jdk_67_method_42_code_4) (v := (.ref y1)) rfl rfl (n := 5) rfl ?_
  refine o_callN X1 hx hZ rfl hown (hw _ (List.mem_of_getElem? (i := 156) rfl)) (hw _ (List.mem_of_getElem? (i := 157) rfl)) (hw _ (List.mem_of_getElem? (i := 3) rfl)) (hw _ (List.mem_of_getElem? (i := 158) rfl)) (by decide) e1 (a := b1) (argsL := [(.ref y1)]) (rest := [(.ref b1)]) (c_ts2_5 l Z a0 hw b1 y1 r kr cs d0 d1 d2 d3 d4 h1 n0 zz1 gg1 A1 f11 f12 f4 f5 f6 f7 f8 f9 (Ne.symm ne2) (Ne.symm ne3) hcs) 1 (by decide) (by decide) (by decide) (by decide) (by rw [hml]; rfl) (lenOf o_pd22 rfl) rfl (Nat.le_of_eq rfl) (hb hby d_jdk_67_method_42_code_5) (n := 8) rfl ?_
  intro v13 T13 L13 X13 q13
  obtain ⟨n1_13, kn_13, rfl, Nq13, K13, sq13_n1, o13_0, o13_1, o13_2, o13_3⟩ := q13
  have N14 := Fr.app N0 Nq13
  have ne15 : y1 ≠ n1_13 := Nat.ne_of_lt (Nat.lt_of_lt_of_le f4.lt sq13_n1)
  have ne16 : r ≠ n1_13 := Nat.ne_of_lt (Nat.lt_of_lt_of_le f8.lt sq13_n1)
  have ne17 : b1 ≠ n1_13 := Nat.ne_of_lt (Nat.lt_of_lt_of_le A1.lt sq13_n1)
  have gg13_n1 : n0 ≤ n1_13 := Nat.le_trans zz1 sq13_n1
  have sz13_n1 : h0.size ≤ n1_13 := Nat.le_trans K10.1 sq13_n1
  have f18 := f4.keep K13
  have f19 := f5.keep K13 (ninS ne2 nin0)
  have f20 := f6.keep K13 (ninS ne2 nin0)
  have f21 := f7.keep K13 (ninS ne2 nin0)
  have f22 := f8.keep K13 (ninS ne3 nin0)
  have f23 := o_sta_keep f9 K13 (allS (P := fun a => ∀ cl : Cell, h1[a]? = some cl → cl.vm.isStatics = false) (o_exa_ns A1) all0)
  have f24 := A1.keep K13
  have zz13 : n0 ≤ T13.heap.size := Nat.le_trans zz1 K13.1
  have K27 : Keep h0 T13.heap [] := K10.trans K13 (allS (P := fun x => x ∈ [] ∨ h0.size ≤ x) (Or.inr sz1) all0)
  show Goes _ _ p e below s _ _ _ (T13.setTop (mkF m 8 #[.val (.ref y1)] [(.ref b1)]))
  exact o_areturn X13 hx hret hlk rfl rfl (hb hby d_jdk_67_method_42_code_8) (by decide) (by decide) (rfl : T13.heap = T13.heap) ⟨b1, n1_13, kn_13, rfl, N14, K27, sz1, sz13_n1, o13_0, o13_1, o13_2, o13_3⟩
theorem d_jdk_43_method_13_code_0 : decode jdk_43_method_13_code 0 = .ok (.aload_n 0, 1) := by decide +kernel
theorem d_jdk_43_method_13_code_1 : decode jdk_43_method_13_code 1 = .ok (.arraylength, 1) := by decide +kernel
theorem d_jdk_43_method_13_code_2 : decode jdk_43_method_13_code 2 = .ok (.aload_n 1, 1) := by decide +kernel
theorem d_jdk_43_method_13_code_3 : decode jdk_43_method_13_code 3 = .ok (.arraylength, 1) := by decide +kernel
theorem d_jdk_43_method_13_code_4 : decode jdk_43_method_13_code 4 = .ok (.if_icmp .ne 30, 3) := by decide +kernel
theorem d_jdk_43_method_13_code_34 : decode jdk_43_method_13_code 34 = .ok (.iconst 0, 1) := by decide +kernel
theorem d_jdk_43_method_13_code_35 : decode jdk_43_method_13_code 35 = .ok (.ireturn, 1) := by decide +kernel
theorem o_ef75 (m : MethodId) (v1 : Addr) (v2 : Addr) : entryFrame m #[(.ref v1), (.ref v2)] 3 = mkF m 0 #[.val (.ref v1), .val (.ref v2), .unset] [] := by first | (simp [entryFrame, mkF, argsToLocals, Value.category]; done) | rfl
set_option maxRecDepth 65536 in
set_option maxHeartbeats 40000000 in
theorem c_eqL3 (l : Launch) (Z : State) (a0 : Array Value) (hw : ∀ d ∈ tables_1, d.before a0 Z = true) (v1 : Addr) (q1 : ClassId) (v2 : Addr) (q2 : ClassId) (vs : List Value) (us : List Value) (h0 : Heap) (pV_v1 : Arv Z h0 v1 q1 .byte (3 : Int32) vs (.int (0 : Int32))) (pV_v2 : Arv Z h0 v2 q2 .byte (2 : Int32) us (.int (0 : Int32))) :
    Does l Z (⟨"java/lang/StringLatin1", "equals", "([B[B)Z"⟩ : MethodName) jdk_43_method_13_code 3 (some .boolean) [] ({ frames := 0, cells := 0, slots := 0, locals := 0 } : Room) #[(.ref v1), (.ref v2)] h0 (Pur h0 (.int (0 : Int32))) := by
  refine Does.of (plainFor_of_name o_pn2) ?_
  intro p e s m below meth c T0 hx hby hml hown hnm hret hlk hZ X0 e0
  have hown : s.vm.findClass "java/lang/StringLatin1" = some m.cls := hown
  have hml : c.maxLocals = 3 := hml
  have hret : meth.sig.returnType = some .boolean := hret
  refine o_entry (o_ef75 m v1 v2) ?_
  refine o_aloadN X0 hx (hb hby d_jdk_43_method_13_code_0) (v := (.ref v1)) rfl rfl (n := 1) rfl ?_
  refine o_arraylength X0 hx hZ e0 pV_v1 (hb hby d_jdk_43_method_13_code_1) (n := 2) rfl ?_
  refine o_aloadN X0 hx (hb hby d_jdk_43_method_13_code_2) (v := (.ref v2)) rfl rfl (n := 3) rfl ?_
  refine o_arraylength X0 hx hZ e0 pV_v2 (hb hby d_jdk_43_method_13_code_3) (n := 4) rfl ?_
  refine o_icmpY X0 hx (hb hby d_jdk_43_method_13_code_4) (XT.ii_ne_t (by decide)) (by decide) (n := 34) (by decide) ?_
  refine o_iconst X0 hx (hb hby d_jdk_43_method_13_code_34) (v := (0 : Int32)) rfl (n := 35) rfl ?_
  exact o_nreturn X0 hx hret hlk (t := .boolean) (by simp) (hb hby d_jdk_43_method_13_code_35) (by decide) (by decide) e0 ⟨rfl, rfl, rfl⟩
theorem d_jdk_42_method_66_code_0 : decode jdk_42_method_66_code 0 = .ok (.aload_n 0, 1) := by decide +kernel
theorem d_jdk_42_method_66_code_1 : decode jdk_42_method_66_code 1 = .ok (.aload_n 1, 1) := by decide +kernel
theorem d_jdk_42_method_66_code_2 : decode jdk_42_method_66_code 2 = .ok (.if_acmp .ne 5, 3) := by decide +kernel
theorem d_jdk_42_method_66_code_7 : decode jdk_42_method_66_code 7 = .ok (.aload_n 1, 1) := by decide +kernel
theorem d_jdk_42_method_66_code_8 : decode jdk_42_method_66_code 8 = .ok (.instanceof 10, 3) := by decide +kernel
theorem d_jdk_42_method_66_code_11 : decode jdk_42_method_66_code 11 = .ok (.ifCond .eq 43, 3) := by decide +kernel
theorem d_jdk_42_method_66_code_14 : decode jdk_42_method_66_code 14 = .ok (.aload_n 1, 1) := by decide +kernel
theorem d_jdk_42_method_66_code_15 : decode jdk_42_method_66_code 15 = .ok (.checkcast 10, 3) := by decide +kernel
theorem d_jdk_42_method_66_code_18 : decode jdk_42_method_66_code 18 = .ok (.astore_n 2, 1) := by decide +kernel
theorem d_jdk_42_method_66_code_19 : decode jdk_42_method_66_code 19 = .ok (.getstatic 38, 3) := by decide +kernel
theorem d_jdk_42_method_66_code_22 : decode jdk_42_method_66_code 22 = .ok (.ifCond .eq 14, 3) := by decide +kernel
theorem d_jdk_42_method_66_code_25 : decode jdk_42_method_66_code 25 = .ok (.aload_n 0, 1) := by decide +kernel
theorem d_jdk_42_method_66_code_26 : decode jdk_42_method_66_code 26 = .ok (.getfield 15, 3) := by decide +kernel
theorem d_jdk_42_method_66_code_29 : decode jdk_42_method_66_code 29 = .ok (.aload_n 2, 1) := by decide +kernel
theorem d_jdk_42_method_66_code_30 : decode jdk_42_method_66_code 30 = .ok (.getfield 15, 3) := by decide +kernel
theorem d_jdk_42_method_66_code_33 : decode jdk_42_method_66_code 33 = .ok (.if_icmp .ne 21, 3) := by decide +kernel
theorem d_jdk_42_method_66_code_36 : decode jdk_42_method_66_code 36 = .ok (.aload_n 0, 1) := by decide +kernel
theorem d_jdk_42_method_66_code_37 : decode jdk_42_method_66_code 37 = .ok (.getfield 9, 3) := by decide +kernel
theorem d_jdk_42_method_66_code_40 : decode jdk_42_method_66_code 40 = .ok (.aload_n 2, 1) := by decide +kernel
theorem d_jdk_42_method_66_code_41 : decode jdk_42_method_66_code 41 = .ok (.getfield 9, 3) := by decide +kernel
theorem d_jdk_42_method_66_code_44 : decode jdk_42_method_66_code 44 = .ok (.invokestatic 541, 3) := by decide +kernel
theorem o_pd23 : parseMethodDescriptor "([B[B)Z" = some ⟨[(.array .byte), (.array .byte)], some .boolean⟩ := by decide +kernel
theorem d_jdk_42_method_66_code_47 : decode jdk_42_method_66_code 47 = .ok (.ifCond .eq 7, 3) := by decide +kernel
theorem d_jdk_42_method_66_code_54 : decode jdk_42_method_66_code 54 = .ok (.iconst 0, 1) := by decide +kernel
theorem d_jdk_42_method_66_code_55 : decode jdk_42_method_66_code 55 = .ok (.ireturn, 1) := by decide +kernel
theorem o_ef76 (m : MethodId) (a1 : Addr) (y1 : Addr) : entryFrame m #[(.ref a1), (.ref y1)] 3 = mkF m 0 #[.val (.ref a1), .val (.ref y1), .unset] [] := by first | (simp [entryFrame, mkF, argsToLocals, Value.category]; done) | rfl
set_option maxRecDepth 65536 in
set_option maxHeartbeats 40000000 in
theorem c_eq3 (l : Launch) (Z : State) (a0 : Array Value) (hw : ∀ d ∈ tables_1, d.before a0 Z = true) (a1 : Addr) (v1 : Addr) (q1 : ClassId) (vs : List Value) (y1 : Addr) (v2 : Addr) (q2 : ClassId) (us : List Value) (cs : Int32) (h0 : Heap) (pE_a1 : Exa Z h0 a1 "java/lang/String") (pF_a1_coder : Fld Z h0 a1 "java/lang/String" "coder" "B" (.int (0 : Int32))) (pF_a1_value : Fld Z h0 a1 "java/lang/String" "value" "[B" (.ref v1)) (pV_v1 : Arv Z h0 v1 q1 .byte (3 : Int32) vs (.int (0 : Int32))) (pE_y1 : Exa Z h0 y1 "java/lang/String") (pF_y1_coder : Fld Z h0 y1 "java/lang/String" "coder" "B" (.int (0 : Int32))) (pF_y1_value : Fld Z h0 y1 "java/lang/String" "value" "[B" (.ref v2)) (pV_v2 : Arv Z h0 v2 q2 .byte (2 : Int32) us (.int (0 : Int32))) (pne_a1_y1 : a1 ≠ y1) (pS_COMPACT_STRINGS : Sta Z h0 "java/lang/String" "COMPACT_STRINGS" "Z" (.int cs)) (hcs : ¬ cs = (0 : Int32)) :
    Does l Z (⟨"java/lang/String", "equals", "(Ljava/lang/Object;)Z"⟩ : MethodName) jdk_42_method_66_code 3 (some .boolean) [] ({ frames := 1, cells := 0, slots := 0, locals := 14 } : Room) #[(.ref a1), (.ref y1)] h0 (Pur h0 (.int (0 : Int32))) := by
  refine Does.of (plainFor_of_name o_pn1) ?_
  intro p e s m below meth c T0 hx hby hml hown hnm hret hlk hZ X0 e0
  have hown : s.vm.findClass "java/lang/String" = some m.cls := hown
  have hml : c.maxLocals = 3 := hml
  have hret : meth.sig.returnType = some .boolean := hret
  refine o_entry (o_ef76 m a1 y1) ?_
  refine o_aloadN X0 hx (hb hby d_jdk_42_method_66_code_0) (v := (.ref a1)) rfl rfl (n := 1) rfl ?_
  refine o_aloadN X0 hx (hb hby d_jdk_42_method_66_code_1) (v := (.ref y1)) rfl rfl (n := 2) rfl ?_
  refine o_acmp X0 hx (hb hby d_jdk_42_method_66_code_2) rfl rfl (same := false) (decide_eq_false fun q => pne_a1_y1 (Value.ref.inj q)) (by decide) (n := 7) (by decide) ?_
  refine o_aloadN X0 hx (hb hby d_jdk_42_method_66_code_7) (v := (.ref y1)) rfl rfl (n := 8) rfl ?_
  refine o_instanceof X0 hx hZ hown (hw _ (List.mem_of_getElem? (i := 37) rfl)) e0 pE_y1 (hb hby d_jdk_42_method_66_code_8) (n := 11) rfl ?_
  intro T1 X1 e1
  refine o_ifN X1 hx (hb hby d_jdk_42_method_66_code_11) (XT.i0_eq_f (by decide)) (n := 14) rfl ?_
  refine o_aloadN X1 hx (hb hby d_jdk_42_method_66_code_14) (v := (.ref y1)) rfl rfl (n := 15) rfl ?_
  refine o_checkcast X1 hx hZ hown (hw _ (List.mem_of_getElem? (i := 37) rfl)) e1 pE_y1 (hb hby d_jdk_42_method_66_code_15) (n := 18) rfl ?_
  intro T2 X2 e2
  refine o_astoreN X2 hx (hb hby d_jdk_42_method_66_code_18) rfl (Ls' := #[.val (.ref a1), .val (.ref y1), .val (.ref y1)]) rfl (n := 19) rfl ?_
  refine o_getstatic X2 hx hZ hown (host := "") (Or.inl (hw _ (List.mem_of_getElem? (i := 14) rfl))) Via.refl e2 pS_COMPACT_STRINGS (hb hby d_jdk_42_method_66_code_19) (n := 22) rfl ?_
  intro T3 X3 e3
  refine o_ifN X3 hx (hb hby d_jdk_42_method_66_code_22) (XT.i0_eq_f hcs) (n := 25) rfl ?_
  refine o_aloadN X3 hx (hb hby d_jdk_42_method_66_code_25) (v := (.ref a1)) rfl rfl (n := 26) rfl ?_
  refine o_getfield X3 hx hZ hown (host := "") (Or.inl (hw _ (List.mem_of_getElem? (i := 26) rfl))) Via.refl e3 pF_a1_coder (hb hby d_jdk_42_method_66_code_26) (n := 29) rfl ?_
  intro T4 X4 e4
  refine o_aloadN X4 hx (hb hby d_jdk_42_method_66_code_29) (v := (.ref y1)) rfl rfl (n := 30) rfl ?_
  refine o_getfield X4 hx hZ hown (host := "") (Or.inl (hw _ (List.mem_of_getElem? (i := 26) rfl))) Via.refl e4 pF_y1_coder (hb hby d_jdk_42_method_66_code_30) (n := 33) rfl ?_
  intro T5 X5 e5
  refine o_icmpN X5 hx (hb hby d_jdk_42_method_66_code_33) (XT.ii_ne_f (by decide)) (n := 36) rfl ?_
  refine o_aloadN X5 hx (hb hby d_jdk_42_method_66_code_36) (v := (.ref a1)) rfl rfl (n := 37) rfl ?_
  refine o_getfield X5 hx hZ hown (host := "") (Or.inl (hw _ (List.mem_of_getElem? (i := 28) rfl))) Via.refl e5 pF_a1_value (hb hby d_jdk_42_method_66_code_37) (n := 40) rfl ?_
  intro T6 X6 e6
  refine o_aloadN X6 hx (hb hby d_jdk_42_method_66_code_40) (v := (.ref y1)) rfl rfl (n := 41) rfl ?_
  refine o_getfield X6 hx hZ hown (host := "") (Or.inl (hw _ (List.mem_of_getElem? (i := 28) rfl))) Via.refl e6 pF_y1_value (hb hby d_jdk_42_method_66_code_41) (n := 44) rfl ?_
  intro T7 X7 e7
  refine o_callS X7 hx hZ hown (hw _ (List.mem_of_getElem? (i := 200) rfl)) (hw _ (List.mem_of_getElem? (i := 201) rfl)) (hw _ (List.mem_of_getElem? (i := 35) rfl)) (hw _ (List.mem_of_getElem? (i := 202) rfl)) (by decide) e7 (argsL := [(.ref v1), (.ref v2)]) (rest := []) (c_eqL3 l Z a0 hw v1 q1 v2 q2 vs us h0 pV_v1 pV_v2) 0 (by decide) (by decide) (by decide) (by decide) (by rw [hml]; rfl) (lenOf o_pd23 rfl) rfl (Nat.le_of_eq rfl) (hb hby d_jdk_42_method_66_code_44) (n := 47) rfl ?_
  intro v8 T8 L8 X8 q8
  obtain ⟨rfl, e8, rfl⟩ := q8
  show Goes _ _ p e below s _ _ _ (T8.setTop (mkF m 47 #[.val (.ref a1), .val (.ref y1), .val (.ref y1)] [(.int (0 : Int32))]))
  refine o_ifY X8 hx (hb hby d_jdk_42_method_66_code_47) (XT.i0_eq_t (by decide)) (by decide) (n := 54) (by decide) ?_
  refine o_iconst X8 hx (hb hby d_jdk_42_method_66_code_54) (v := (0 : Int32)) rfl (n := 55) rfl ?_
  exact o_nreturn X8 hx hret hlk (t := .boolean) (by simp) (hb hby d_jdk_42_method_66_code_55) (by decide) (by decide) e8 ⟨rfl, rfl, rfl⟩
theorem o_ef77 (m : MethodId) (v1 : Addr) (v2 : Addr) : entryFrame m #[(.ref v1), (.ref v2)] 3 = mkF m 0 #[.val (.ref v1), .val (.ref v2), .unset] [] := by first | (simp [entryFrame, mkF, argsToLocals, Value.category]; done) | rfl
set_option maxRecDepth 65536 in
set_option maxHeartbeats 40000000 in
theorem c_eqL4 (l : Launch) (Z : State) (a0 : Array Value) (hw : ∀ d ∈ tables_1, d.before a0 Z = true) (v1 : Addr) (q1 : ClassId) (v2 : Addr) (q2 : ClassId) (vs : List Value) (us : List Value) (h0 : Heap) (pV_v1 : Arv Z h0 v1 q1 .byte (4 : Int32) vs (.int (0 : Int32))) (pV_v2 : Arv Z h0 v2 q2 .byte (2 : Int32) us (.int (0 : Int32))) :
    Does l Z (⟨"java/lang/StringLatin1", "equals", "([B[B)Z"⟩ : MethodName) jdk_43_method_13_code 3 (some .boolean) [] ({ frames := 0, cells := 0, slots := 0, locals := 0 } : Room) #[(.ref v1), (.ref v2)] h0 (Pur h0 (.int (0 : Int32))) := by
  refine Does.of (plainFor_of_name o_pn2) ?_
  intro p e s m below meth c T0 hx hby hml hown hnm hret hlk hZ X0 e0
  have hown : s.vm.findClass "java/lang/StringLatin1" = some m.cls := hown
  have hml : c.maxLocals = 3 := hml
  have hret : meth.sig.returnType = some .boolean := hret
  refine o_entry (o_ef77 m v1 v2) ?_
  refine o_aloadN X0 hx (hb hby d_jdk_43_method_13_code_0) (v := (.ref v1)) rfl rfl (n := 1) rfl ?_
  refine o_arraylength X0 hx hZ e0 pV_v1 (hb hby d_jdk_43_method_13_code_1) (n := 2) rfl ?_
  refine o_aloadN X0 hx (hb hby d_jdk_43_method_13_code_2) (v := (.ref v2)) rfl rfl (n := 3) rfl ?_
  refine o_arraylength X0 hx hZ e0 pV_v2 (hb hby d_jdk_43_method_13_code_3) (n := 4) rfl ?_
  refine o_icmpY X0 hx (hb hby d_jdk_43_method_13_code_4) (XT.ii_ne_t (by decide)) (by decide) (n := 34) (by decide) ?_
  refine o_iconst X0 hx (hb hby d_jdk_43_method_13_code_34) (v := (0 : Int32)) rfl (n := 35) rfl ?_
  exact o_nreturn X0 hx hret hlk (t := .boolean) (by simp) (hb hby d_jdk_43_method_13_code_35) (by decide) (by decide) e0 ⟨rfl, rfl, rfl⟩
theorem o_ef78 (m : MethodId) (a1 : Addr) (y1 : Addr) : entryFrame m #[(.ref a1), (.ref y1)] 3 = mkF m 0 #[.val (.ref a1), .val (.ref y1), .unset] [] := by first | (simp [entryFrame, mkF, argsToLocals, Value.category]; done) | rfl
set_option maxRecDepth 65536 in
set_option maxHeartbeats 40000000 in
theorem c_eq4 (l : Launch) (Z : State) (a0 : Array Value) (hw : ∀ d ∈ tables_1, d.before a0 Z = true) (a1 : Addr) (v1 : Addr) (q1 : ClassId) (vs : List Value) (y1 : Addr) (v2 : Addr) (q2 : ClassId) (us : List Value) (cs : Int32) (h0 : Heap) (pE_a1 : Exa Z h0 a1 "java/lang/String") (pF_a1_coder : Fld Z h0 a1 "java/lang/String" "coder" "B" (.int (0 : Int32))) (pF_a1_value : Fld Z h0 a1 "java/lang/String" "value" "[B" (.ref v1)) (pV_v1 : Arv Z h0 v1 q1 .byte (4 : Int32) vs (.int (0 : Int32))) (pE_y1 : Exa Z h0 y1 "java/lang/String") (pF_y1_coder : Fld Z h0 y1 "java/lang/String" "coder" "B" (.int (0 : Int32))) (pF_y1_value : Fld Z h0 y1 "java/lang/String" "value" "[B" (.ref v2)) (pV_v2 : Arv Z h0 v2 q2 .byte (2 : Int32) us (.int (0 : Int32))) (pne_a1_y1 : a1 ≠ y1) (pS_COMPACT_STRINGS : Sta Z h0 "java/lang/String" "COMPACT_STRINGS" "Z" (.int cs)) (hcs : ¬ cs = (0 : Int32)) :
    Does l Z (⟨"java/lang/String", "equals", "(Ljava/lang/Object;)Z"⟩ : MethodName) jdk_42_method_66_code 3 (some .boolean) [] ({ frames := 1, cells := 0, slots := 0, locals := 14 } : Room) #[(.ref a1), (.ref y1)] h0 (Pur h0 (.int (0 : Int32))) := by
  refine Does.of (plainFor_of_name o_pn1) ?_
  intro p e s m below meth c T0 hx hby hml hown hnm hret hlk hZ X0 e0
  have hown : s.vm.findClass "java/lang/String" = some m.cls := hown
  have hml : c.maxLocals = 3 := hml
  have hret : meth.sig.returnType = some .boolean := hret
  refine o_entry (o_ef78 m a1 y1) ?_
  refine o_aloadN X0 hx (hb hby d_jdk_42_method_66_code_0) (v := (.ref a1)) rfl rfl (n := 1) rfl ?_
  refine o_aloadN X0 hx (hb hby d_jdk_42_method_66_code_1) (v := (.ref y1)) rfl rfl (n := 2) rfl ?_
  refine o_acmp X0 hx (hb hby d_jdk_42_method_66_code_2) rfl rfl (same := false) (decide_eq_false fun q => pne_a1_y1 (Value.ref.inj q)) (by decide) (n := 7) (by decide) ?_
  refine o_aloadN X0 hx (hb hby d_jdk_42_method_66_code_7) (v := (.ref y1)) rfl rfl (n := 8) rfl ?_
  refine o_instanceof X0 hx hZ hown (hw _ (List.mem_of_getElem? (i := 37) rfl)) e0 pE_y1 (hb hby d_jdk_42_method_66_code_8) (n := 11) rfl ?_
  intro T1 X1 e1
  refine o_ifN X1 hx (hb hby d_jdk_42_method_66_code_11) (XT.i0_eq_f (by decide)) (n := 14) rfl ?_
  refine o_aloadN X1 hx (hb hby d_jdk_42_method_66_code_14) (v := (.ref y1)) rfl rfl (n := 15) rfl ?_
  refine o_checkcast X1 hx hZ hown (hw _ (List.mem_of_getElem? (i := 37) rfl)) e1 pE_y1 (hb hby d_jdk_42_method_66_code_15) (n := 18) rfl ?_
  intro T2 X2 e2
  refine o_astoreN X2 hx (hb hby d_jdk_42_method_66_code_18) rfl (Ls' := #[.val (.ref a1), .val (.ref y1), .val (.ref y1)]) rfl (n := 19) rfl ?_
  refine o_getstatic X2 hx hZ hown (host := "") (Or.inl (hw _ (List.mem_of_getElem? (i := 14) rfl))) Via.refl e2 pS_COMPACT_STRINGS (hb hby d_jdk_42_method_66_code_19) (n := 22) rfl ?_
  intro T3 X3 e3
  refine o_ifN X3 hx (hb hby d_jdk_42_method_66_code_22) (XT.i0_eq_f hcs) (n := 25) rfl ?_
  refine o_aloadN X3 hx (hb hby d_jdk_42_method_66_code_25) (v := (.ref a1)) rfl rfl (n := 26) rfl ?_
  refine o_getfield X3 hx hZ hown (host := "") (Or.inl (hw _ (List.mem_of_getElem? (i := 26) rfl))) Via.refl e3 pF_a1_coder (hb hby d_jdk_42_method_66_code_26) (n := 29) rfl ?_
  intro T4 X4 e4
  refine o_aloadN X4 hx (hb hby d_jdk_42_method_66_code_29) (v := (.ref y1)) rfl rfl (n := 30) rfl ?_
  refine o_getfield X4 hx hZ hown (host := "") (Or.inl (hw _ (List.mem_of_getElem? (i := 26) rfl))) Via.refl e4 pF_y1_coder (hb hby d_jdk_42_method_66_code_30) (n := 33) rfl ?_
  intro T5 X5 e5
  refine o_icmpN X5 hx (hb hby d_jdk_42_method_66_code_33) (XT.ii_ne_f (by decide)) (n := 36) rfl ?_
  refine o_aloadN X5 hx (hb hby d_jdk_42_method_66_code_36) (v := (.ref a1)) rfl rfl (n := 37) rfl ?_
  refine o_getfield X5 hx hZ hown (host := "") (Or.inl (hw _ (List.mem_of_getElem? (i := 28) rfl))) Via.refl e5 pF_a1_value (hb hby d_jdk_42_method_66_code_37) (n := 40) rfl ?_
  intro T6 X6 e6
  refine o_aloadN X6 hx (hb hby d_jdk_42_method_66_code_40) (v := (.ref y1)) rfl rfl (n := 41) rfl ?_
  refine o_getfield X6 hx hZ hown (host := "") (Or.inl (hw _ (List.mem_of_getElem? (i := 28) rfl))) Via.refl e6 pF_y1_value (hb hby d_jdk_42_method_66_code_41) (n := 44) rfl ?_
  intro T7 X7 e7
  refine o_callS X7 hx hZ hown (hw _ (List.mem_of_getElem? (i := 200) rfl)) (hw _ (List.mem_of_getElem? (i := 201) rfl)) (hw _ (List.mem_of_getElem? (i := 35) rfl)) (hw _ (List.mem_of_getElem? (i := 202) rfl)) (by decide) e7 (argsL := [(.ref v1), (.ref v2)]) (rest := []) (c_eqL4 l Z a0 hw v1 q1 v2 q2 vs us h0 pV_v1 pV_v2) 0 (by decide) (by decide) (by decide) (by decide) (by rw [hml]; rfl) (lenOf o_pd23 rfl) rfl (Nat.le_of_eq rfl) (hb hby d_jdk_42_method_66_code_44) (n := 47) rfl ?_
  intro v8 T8 L8 X8 q8
  obtain ⟨rfl, e8, rfl⟩ := q8
  show Goes _ _ p e below s _ _ _ (T8.setTop (mkF m 47 #[.val (.ref a1), .val (.ref y1), .val (.ref y1)] [(.int (0 : Int32))]))
  refine o_ifY X8 hx (hb hby d_jdk_42_method_66_code_47) (XT.i0_eq_t (by decide)) (by decide) (n := 54) (by decide) ?_
  refine o_iconst X8 hx (hb hby d_jdk_42_method_66_code_54) (v := (0 : Int32)) rfl (n := 55) rfl ?_
  exact o_nreturn X8 hx hret hlk (t := .boolean) (by simp) (hb hby d_jdk_42_method_66_code_55) (by decide) (by decide) e8 ⟨rfl, rfl, rfl⟩
theorem o_ef79 (m : MethodId) (v1 : Addr) (v2 : Addr) : entryFrame m #[(.ref v1), (.ref v2)] 3 = mkF m 0 #[.val (.ref v1), .val (.ref v2), .unset] [] := by first | (simp [entryFrame, mkF, argsToLocals, Value.category]; done) | rfl
set_option maxRecDepth 65536 in
set_option maxHeartbeats 40000000 in
theorem c_eqL5 (l : Launch) (Z : State) (a0 : Array Value) (hw : ∀ d ∈ tables_1, d.before a0 Z = true) (v1 : Addr) (q1 : ClassId) (v2 : Addr) (q2 : ClassId) (vs : List Value) (us : List Value) (h0 : Heap) (pV_v1 : Arv Z h0 v1 q1 .byte (5 : Int32) vs (.int (0 : Int32))) (pV_v2 : Arv Z h0 v2 q2 .byte (2 : Int32) us (.int (0 : Int32))) :
    Does l Z (⟨"java/lang/StringLatin1", "equals", "([B[B)Z"⟩ : MethodName) jdk_43_method_13_code 3 (some .boolean) [] ({ frames := 0, cells := 0, slots := 0, locals := 0 } : Room) #[(.ref v1), (.ref v2)] h0 (Pur h0 (.int (0 : Int32))) := by
  refine Does.of (plainFor_of_name o_pn2) ?_
  intro p e s m below meth c T0 hx hby hml hown hnm hret hlk hZ X0 e0
  have hown : s.vm.findClass "java/lang/StringLatin1" = some m.cls := hown
  have hml : c.maxLocals = 3 := hml
  have hret : meth.sig.returnType = some .boolean := hret
  refine o_entry (o_ef79 m v1 v2) ?_
  refine o_aloadN X0 hx (hb hby d_jdk_43_method_13_code_0) (v := (.ref v1)) rfl rfl (n := 1) rfl ?_
  refine o_arraylength X0 hx hZ e0 pV_v1 (hb hby d_jdk_43_method_13_code_1) (n := 2) rfl ?_
  refine o_aloadN X0 hx (hb hby d_jdk_43_method_13_code_2) (v := (.ref v2)) rfl rfl (n := 3) rfl ?_
  refine o_arraylength X0 hx hZ e0 pV_v2 (hb hby d_jdk_43_method_13_code_3) (n := 4) rfl ?_
  refine o_icmpY X0 hx (hb hby d_jdk_43_method_13_code_4) (XT.ii_ne_t (by decide)) (by decide) (n := 34) (by decide) ?_
  refine o_iconst X0 hx (hb hby d_jdk_43_method_13_code_34) (v := (0 : Int32)) rfl (n := 35) rfl ?_
  exact o_nreturn X0 hx hret hlk (t := .boolean) (by simp) (hb hby d_jdk_43_method_13_code_35) (by decide) (by decide) e0 ⟨rfl, rfl, rfl⟩
theorem o_ef80 (m : MethodId) (a1 : Addr) (y1 : Addr) : entryFrame m #[(.ref a1), (.ref y1)] 3 = mkF m 0 #[.val (.ref a1), .val (.ref y1), .unset] [] := by first | (simp [entryFrame, mkF, argsToLocals, Value.category]; done) | rfl
set_option maxRecDepth 65536 in
set_option maxHeartbeats 40000000 in
theorem c_eq5 (l : Launch) (Z : State) (a0 : Array Value) (hw : ∀ d ∈ tables_1, d.before a0 Z = true) (a1 : Addr) (v1 : Addr) (q1 : ClassId) (vs : List Value) (y1 : Addr) (v2 : Addr) (q2 : ClassId) (us : List Value) (cs : Int32) (h0 : Heap) (pE_a1 : Exa Z h0 a1 "java/lang/String") (pF_a1_coder : Fld Z h0 a1 "java/lang/String" "coder" "B" (.int (0 : Int32))) (pF_a1_value : Fld Z h0 a1 "java/lang/String" "value" "[B" (.ref v1)) (pV_v1 : Arv Z h0 v1 q1 .byte (5 : Int32) vs (.int (0 : Int32))) (pE_y1 : Exa Z h0 y1 "java/lang/String") (pF_y1_coder : Fld Z h0 y1 "java/lang/String" "coder" "B" (.int (0 : Int32))) (pF_y1_value : Fld Z h0 y1 "java/lang/String" "value" "[B" (.ref v2)) (pV_v2 : Arv Z h0 v2 q2 .byte (2 : Int32) us (.int (0 : Int32))) (pne_a1_y1 : a1 ≠ y1) (pS_COMPACT_STRINGS : Sta Z h0 "java/lang/String" "COMPACT_STRINGS" "Z" (.int cs)) (hcs : ¬ cs = (0 : Int32)) :
    Does l Z (⟨"java/lang/String", "equals", "(Ljava/lang/Object;)Z"⟩ : MethodName) jdk_42_method_66_code 3 (some .boolean) [] ({ frames := 1, cells := 0, slots := 0, locals := 14 } : Room) #[(.ref a1), (.ref y1)] h0 (Pur h0 (.int (0 : Int32))) := by
  refine Does.of (plainFor_of_name o_pn1) ?_
  intro p e s m below meth c T0 hx hby hml hown hnm hret hlk hZ X0 e0
  have hown : s.vm.findClass "java/lang/String" = some m.cls := hown
  have hml : c.maxLocals = 3 := hml
  have hret : meth.sig.returnType = some .boolean := hret
  refine o_entry (o_ef80 m a1 y1) ?_
  refine o_aloadN X0 hx (hb hby d_jdk_42_method_66_code_0) (v := (.ref a1)) rfl rfl (n := 1) rfl ?_
  refine o_aloadN X0 hx (hb hby d_jdk_42_method_66_code_1) (v := (.ref y1)) rfl rfl (n := 2) rfl ?_
  refine o_acmp X0 hx (hb hby d_jdk_42_method_66_code_2) rfl rfl (same := false) (decide_eq_false fun q => pne_a1_y1 (Value.ref.inj q)) (by decide) (n := 7) (by decide) ?_
  refine o_aloadN X0 hx (hb hby d_jdk_42_method_66_code_7) (v := (.ref y1)) rfl rfl (n := 8) rfl ?_
  refine o_instanceof X0 hx hZ hown (hw _ (List.mem_of_getElem? (i := 37) rfl)) e0 pE_y1 (hb hby d_jdk_42_method_66_code_8) (n := 11) rfl ?_
  intro T1 X1 e1
  refine o_ifN X1 hx (hb hby d_jdk_42_method_66_code_11) (XT.i0_eq_f (by decide)) (n := 14) rfl ?_
  refine o_aloadN X1 hx (hb hby d_jdk_42_method_66_code_14) (v := (.ref y1)) rfl rfl (n := 15) rfl ?_
  refine o_checkcast X1 hx hZ hown (hw _ (List.mem_of_getElem? (i := 37) rfl)) e1 pE_y1 (hb hby d_jdk_42_method_66_code_15) (n := 18) rfl ?_
  intro T2 X2 e2
  refine o_astoreN X2 hx (hb hby d_jdk_42_method_66_code_18) rfl (Ls' := #[.val (.ref a1), .val (.ref y1), .val (.ref y1)]) rfl (n := 19) rfl ?_
  refine o_getstatic X2 hx hZ hown (host := "") (Or.inl (hw _ (List.mem_of_getElem? (i := 14) rfl))) Via.refl e2 pS_COMPACT_STRINGS (hb hby d_jdk_42_method_66_code_19) (n := 22) rfl ?_
  intro T3 X3 e3
  refine o_ifN X3 hx (hb hby d_jdk_42_method_66_code_22) (XT.i0_eq_f hcs) (n := 25) rfl ?_
  refine o_aloadN X3 hx (hb hby d_jdk_42_method_66_code_25) (v := (.ref a1)) rfl rfl (n := 26) rfl ?_
  refine o_getfield X3 hx hZ hown (host := "") (Or.inl (hw _ (List.mem_of_getElem? (i := 26) rfl))) Via.refl e3 pF_a1_coder (hb hby d_jdk_42_method_66_code_26) (n := 29) rfl ?_
  intro T4 X4 e4
  refine o_aloadN X4 hx (hb hby d_jdk_42_method_66_code_29) (v := (.ref y1)) rfl rfl (n := 30) rfl ?_
  refine o_getfield X4 hx hZ hown (host := "") (Or.inl (hw _ (List.mem_of_getElem? (i := 26) rfl))) Via.refl e4 pF_y1_coder (hb hby d_jdk_42_method_66_code_30) (n := 33) rfl ?_
  intro T5 X5 e5
  refine o_icmpN X5 hx (hb hby d_jdk_42_method_66_code_33) (XT.ii_ne_f (by decide)) (n := 36) rfl ?_
  refine o_aloadN X5 hx (hb hby d_jdk_42_method_66_code_36) (v := (.ref a1)) rfl rfl (n := 37) rfl ?_
  refine o_getfield X5 hx hZ hown (host := "") (Or.inl (hw _ (List.mem_of_getElem? (i := 28) rfl))) Via.refl e5 pF_a1_value (hb hby d_jdk_42_method_66_code_37) (n := 40) rfl ?_
  intro T6 X6 e6
  refine o_aloadN X6 hx (hb hby d_jdk_42_method_66_code_40) (v := (.ref y1)) rfl rfl (n := 41) rfl ?_
  refine o_getfield X6 hx hZ hown (host := "") (Or.inl (hw _ (List.mem_of_getElem? (i := 28) rfl))) Via.refl e6 pF_y1_value (hb hby d_jdk_42_method_66_code_41) (n := 44) rfl ?_
  intro T7 X7 e7
  refine o_callS X7 hx hZ hown (hw _ (List.mem_of_getElem? (i := 200) rfl)) (hw _ (List.mem_of_getElem? (i := 201) rfl)) (hw _ (List.mem_of_getElem? (i := 35) rfl)) (hw _ (List.mem_of_getElem? (i := 202) rfl)) (by decide) e7 (argsL := [(.ref v1), (.ref v2)]) (rest := []) (c_eqL5 l Z a0 hw v1 q1 v2 q2 vs us h0 pV_v1 pV_v2) 0 (by decide) (by decide) (by decide) (by decide) (by rw [hml]; rfl) (lenOf o_pd23 rfl) rfl (Nat.le_of_eq rfl) (hb hby d_jdk_42_method_66_code_44) (n := 47) rfl ?_
  intro v8 T8 L8 X8 q8
  obtain ⟨rfl, e8, rfl⟩ := q8
  show Goes _ _ p e below s _ _ _ (T8.setTop (mkF m 47 #[.val (.ref a1), .val (.ref y1), .val (.ref y1)] [(.int (0 : Int32))]))
  refine o_ifY X8 hx (hb hby d_jdk_42_method_66_code_47) (XT.i0_eq_t (by decide)) (by decide) (n := 54) (by decide) ?_
  refine o_iconst X8 hx (hb hby d_jdk_42_method_66_code_54) (v := (0 : Int32)) rfl (n := 55) rfl ?_
  exact o_nreturn X8 hx hret hlk (t := .boolean) (by simp) (hb hby d_jdk_42_method_66_code_55) (by decide) (by decide) e8 ⟨rfl, rfl, rfl⟩
theorem d_jdk_42_method_66_code_5 : decode jdk_42_method_66_code 5 = .ok (.iconst 1, 1) := by decide +kernel
theorem d_jdk_42_method_66_code_6 : decode jdk_42_method_66_code 6 = .ok (.ireturn, 1) := by decide +kernel
theorem o_ef81 (m : MethodId) (a1 : Addr) : entryFrame m #[(.ref a1), (.ref a1)] 3 = mkF m 0 #[.val (.ref a1), .val (.ref a1), .unset] [] := by first | (simp [entryFrame, mkF, argsToLocals, Value.category]; done) | rfl
set_option maxRecDepth 65536 in
set_option maxHeartbeats 40000000 in
theorem c_eqS (l : Launch) (Z : State) (a0 : Array Value) (hw : ∀ d ∈ tables_1, d.before a0 Z = true) (a1 : Addr) (h0 : Heap) :
    Does l Z (⟨"java/lang/String", "equals", "(Ljava/lang/Object;)Z"⟩ : MethodName) jdk_42_method_66_code 3 (some .boolean) [] ({ frames := 0, cells := 0, slots := 0, locals := 0 } : Room) #[(.ref a1), (.ref a1)] h0 (Pur h0 (.int (1 : Int32))) := by
  refine Does.of (plainFor_of_name o_pn1) ?_
  intro p e s m below meth c T0 hx hby hml hown hnm hret hlk hZ X0 e0
  have hown : s.vm.findClass "java/lang/String" = some m.cls := hown
  have hml : c.maxLocals = 3 := hml
  have hret : meth.sig.returnType = some .boolean := hret
  refine o_entry (o_ef81 m a1) ?_
  refine o_aloadN X0 hx (hb hby d_jdk_42_method_66_code_0) (v := (.ref a1)) rfl rfl (n := 1) rfl ?_
  refine o_aloadN X0 hx (hb hby d_jdk_42_method_66_code_1) (v := (.ref a1)) rfl rfl (n := 2) rfl ?_
  refine o_acmp X0 hx (hb hby d_jdk_42_method_66_code_2) rfl rfl (same := true) (decide_eq_true rfl) (by decide) (n := 5) (by decide) ?_
  refine o_iconst X0 hx (hb hby d_jdk_42_method_66_code_5) (v := (1 : Int32)) rfl (n := 6) rfl ?_
  exact o_nreturn X0 hx hret hlk (t := .boolean) (by simp) (hb hby d_jdk_42_method_66_code_6) (by decide) (by decide) e0 ⟨rfl, rfl, rfl⟩
theorem d_prog_5_method_8_code_0 : decode prog_5_method_8_code 0 = .ok (.aload_n 0, 1) := by decide +kernel
theorem d_prog_5_method_8_code_1 : decode prog_5_method_8_code 1 = .ok (.invokevirtual 40, 3) := by decide +kernel
theorem d_prog_5_method_8_code_4 : decode prog_5_method_8_code 4 = .ok (.ifCond .eq 10, 3) := by decide +kernel
theorem d_prog_5_method_8_code_7 : decode prog_5_method_8_code 7 = .ok (.aload_n 0, 1) := by decide +kernel
theorem d_prog_5_method_8_code_8 : decode prog_5_method_8_code 8 = .ok (.getfield 7, 3) := by decide +kernel
theorem d_prog_5_method_8_code_11 : decode prog_5_method_8_code 11 = .ok (.goto 32, 3) := by decide +kernel
theorem d_prog_5_method_8_code_43 : decode prog_5_method_8_code 43 = .ok (.areturn, 1) := by decide +kernel
theorem o_ef82 (m : MethodId) (a1 : Addr) : entryFrame m #[(.ref a1)] 1 = mkF m 0 #[.val (.ref a1)] [] := by first | (simp [entryFrame, mkF, argsToLocals, Value.category]; done) | rfl
set_option maxRecDepth 65536 in
set_option maxHeartbeats 40000000 in
theorem c_gvn0 (l : Launch) (Z : State) (a0 : Array Value) (hw : ∀ d ∈ tables_1, d.before a0 Z = true) (a1 : Addr) (m1 : Addr) (h0 : Heap) (pE_a1 : Exa Z h0 a1 "com/example/estim365/estim365/cli/Option") (pF_a1_name : Fld Z h0 a1 "com/example/estim365/estim365/cli/Option" "name" "Ljava/lang/String;" (.ref m1)) (pF_a1_value : Fld Z h0 a1 "com/example/estim365/estim365/cli/Option" "value" "Ljava/lang/String;" .null) :
    Does l Z (⟨"com/example/estim365/estim365/cli/Option", "given", "()Ljava/lang/String;"⟩ : MethodName) prog_5_method_8_code 1 (some (.object "java/lang/String")) [] ({ frames := 1, cells := 0, slots := 0, locals := 12 } : Room) #[(.ref a1)] h0 (Pur h0 (.ref m1)) := by
  refine Does.of (plainFor_of_name o_pn5) ?_
  intro p e s m below meth c T0 hx hby hml hown hnm hret hlk hZ X0 e0
  have hown : s.vm.findClass "com/example/estim365/estim365/cli/Option" = some m.cls := hown
  have hml : c.maxLocals = 1 := hml
  have hret : meth.sig.returnType = some (.object "java/lang/String") := hret
  refine o_entry (o_ef82 m a1) ?_
  refine o_aloadN X0 hx (hb hby d_prog_5_method_8_code_0) (v := (.ref a1)) rfl rfl (n := 1) rfl ?_
  refine o_callV X0 hx hZ hown (hw _ (List.mem_of_getElem? (i := 81) rfl)) (hw _ (List.mem_of_getElem? (i := 72) rfl)) (hw _ (List.mem_of_getElem? (i := 74) rfl)) (hw _ (List.mem_of_getElem? (i := 73) rfl)) (hw _ (List.mem_of_getElem? (i := 53) rfl)) (hw _ (List.mem_of_getElem? (i := 75) rfl)) (by decide) e0 pE_a1 (argsL := []) (rest := []) (c_isf1 l Z a0 hw a1 h0 pE_a1 pF_a1_value) 0 (by decide) (by decide) (by decide) (by decide) (by rw [hml]; rfl) (lenOf o_pd20 rfl) rfl (Nat.le_of_eq rfl) (hb hby d_prog_5_method_8_code_1) (n := 4) rfl ?_
  intro v1 T1 L1 X1 q1
  obtain ⟨rfl, e1, rfl⟩ := q1
  show Goes _ _ p e below s _ _ _ (T1.setTop (mkF m 4 #[.val (.ref a1)] [(.int (1 : Int32))]))
  refine o_ifN X1 hx (hb hby d_prog_5_method_8_code_4) (XT.i0_eq_f (by decide)) (n := 7) rfl ?_
  refine o_aloadN X1 hx (hb hby d_prog_5_method_8_code_7) (v := (.ref a1)) rfl rfl (n := 8) rfl ?_
  refine o_getfield X1 hx hZ hown (host := "") (Or.inl (hw _ (List.mem_of_getElem? (i := 63) rfl))) Via.refl e1 pF_a1_name (hb hby d_prog_5_method_8_code_8) (n := 11) rfl ?_
  intro T2 X2 e2
  refine o_goto X2 hx (hb hby d_prog_5_method_8_code_11) (by decide) (n := 43) (by decide) ?_
  exact o_areturn X2 hx hret hlk rfl rfl (hb hby d_prog_5_method_8_code_43) (by decide) (by decide) e2 ⟨rfl, rfl, rfl⟩
theorem d_jdk_42_method_149_code_8 : decode jdk_42_method_149_code 8 = .ok (.aload_n 0, 1) := by decide +kernel
theorem d_jdk_42_method_149_code_9 : decode jdk_42_method_149_code 9 = .ok (.ldc 7, 2) := by decide +kernel
theorem d_jdk_42_method_149_code_11 : decode jdk_42_method_149_code 11 = .ok (.getfield 9, 3) := by decide +kernel
theorem d_jdk_42_method_149_code_14 : decode jdk_42_method_149_code 14 = .ok (.putfield 9, 3) := by decide +kernel
theorem d_jdk_42_method_149_code_17 : decode jdk_42_method_149_code 17 = .ok (.aload_n 0, 1) := by decide +kernel
theorem d_jdk_42_method_149_code_18 : decode jdk_42_method_149_code 18 = .ok (.ldc 7, 2) := by decide +kernel
theorem d_jdk_42_method_149_code_20 : decode jdk_42_method_149_code 20 = .ok (.getfield 15, 3) := by decide +kernel
theorem d_jdk_42_method_149_code_23 : decode jdk_42_method_149_code 23 = .ok (.putfield 15, 3) := by decide +kernel
theorem d_jdk_42_method_149_code_26 : decode jdk_42_method_149_code 26 = .ok (.return_, 1) := by decide +kernel
theorem o_ef83 (m : MethodId) (a1 : Addr) (g : Addr) : entryFrame m #[(.ref a1), (.ref g), (.int (0 : Int32)), (.int (0 : Int32)), .null] 6 = mkF m 0 #[.val (.ref a1), .val (.ref g), .val (.int (0 : Int32)), .val (.int (0 : Int32)), .val .null, .unset] [] := by first | (simp [entryFrame, mkF, argsToLocals, Value.category]; done) | rfl
set_option maxRecDepth 65536 in
set_option maxHeartbeats 40000000 in
theorem c_in4E (l : Launch) (Z : State) (a0 : Array Value) (hw : ∀ d ∈ tables_1, d.before a0 Z = true) (a1 g : Addr) (h0 : Heap) (n0 : Nat) (Z0 : n0 ≤ h0.size) (pg : n0 ≤ a1) (pE_a1 : Exa Z h0 a1 "java/lang/String") (pF_a1_coder : Fld Z h0 a1 "java/lang/String" "coder" "B" (.int (0 : Int32))) (pF_a1_value : Fld Z h0 a1 "java/lang/String" "value" "[B" .null) (hkeep : ∀ (b : Addr) (cl : Cell), Z.heap[b]? = some cl → h0[b]? = some cl) (hheld : ∀ q ∈ [("com/example/estim365/estim365/cli/Option", 51), ("java/lang/String", 7)], Jvm.Lit.constHeld Z q.1 q.2) (hcw : Jvm.Lit.compactW.before a0 Z = true) :
    DoesW l Z (⟨"java/lang/String", "<init>", "([CIILjava/lang/Void;)V"⟩ : MethodName) jdk_42_method_149_code 6 none [] ({ frames := 1, cells := 2, slots := 4, locals := 12 } : Room) #[(.ref a1), (.ref g), (.int (0 : Int32)), (.int (0 : Int32)), .null] h0 (fun vm => IB Z vm []) (fun v h L => ∃ (n1 : Addr) (kn : ClassId), v = none ∧ Fr n0 L ∧ Keep h0 h [a1] ∧ a1 ≠ n1 ∧ Exa Z h a1 "java/lang/String" ∧ Fld Z h a1 "java/lang/String" "coder" "B" (.int (0 : Int32)) ∧ Fld Z h a1 "java/lang/String" "value" "[B" (.ref n1) ∧ Arv Z h n1 kn .byte (0 : Int32) [] (.int (0 : Int32))) (fun vm => IB Z vm [""]) := by
  refine DoesW.of (plainFor_of_name o_pn1) ?_
  intro p e s m below meth c T0 hx hby hml hown hnm hret hlk hZ X0 e0 es0 IB0 S0
  have hown : (s.setVm s.vm).vm.findClass "java/lang/String" = some m.cls := hown
  have hZ : Z.Warmed39 (s.setVm s.vm).vm := hZ
  have hml : c.maxLocals = 6 := hml
  have hret : meth.sig.returnType = none := hret
  refine o_entry (o_ef83 m a1 g) ?_
  have N0 := Fr.nil n0
  have wS : ∀ a ∈ Bundle.stringAtoms, a.before a0 Z = true := o_atoms (hw _ (List.mem_of_getElem? (i := 3) rfl)) (hw _ (List.mem_of_getElem? (i := 2) rfl)) (hw _ (List.mem_of_getElem? (i := 19) rfl)) (hw _ (List.mem_of_getElem? (i := 29) rfl)) (hw _ (List.mem_of_getElem? (i := 27) rfl)) (hw _ (List.mem_of_getElem? (i := 148) rfl)) (hw _ (List.mem_of_getElem? (i := 149) rfl))
  refine o_aloadN X0 hx (hb hby d_jdk_42_method_149_code_0) (v := (.ref a1)) rfl rfl (n := 1) rfl ?_
  refine o_initO X0 hx hZ hown (hw _ (List.mem_of_getElem? (i := 11) rfl)) (hw _ (List.mem_of_getElem? (i := 12) rfl)) (hw _ (List.mem_of_getElem? (i := 13) rfl)) e0 (by rw [hml]; rfl) (hb hby d_jdk_42_method_149_code_1) (by decide) 0 (Nat.le_of_eq rfl) (by decide) (n := 4) rfl ?_
  intro T1 X1 e1
  refine o_iloadN X1 hx (hb hby d_jdk_42_method_149_code_4) (v := (0 : Int32)) rfl (n := 5) rfl ?_
  refine o_ifN X1 hx (hb hby d_jdk_42_method_149_code_5) (XT.i0_ne_f (by decide)) (n := 8) rfl ?_
  refine o_aloadN X1 hx (hb hby d_jdk_42_method_149_code_8) (v := (.ref a1)) rfl rfl (n := 9) rfl ?_
  refine o_ldcS X1 hx hZ hown (hw _ (List.mem_of_getElem? (i := 215) rfl)) wS e1 S0 (Nat.zero_le _) (Fr.nil _) (fun b cl q => by rw [es0]; exact hkeep b cl q) IB0 (by decide) (hheld _ (List.mem_of_getElem? (i := 1) rfl)) hcw (vs := []) (z := (0 : Int32)) ⟨by decide, rfl⟩ (by decide) (by decide) (hb hby d_jdk_42_method_149_code_9) (nn := 0) (by decide) (by decide) (by decide) (by decide) (n := 11) rfl ?_
  intro T2 h2 la2 lb2 lk2 k12 X2 e2 E2 S2 hk2 hZ hown A2 FC2 FV2 V2 IB2 LI2 DD2
  have nla2 : a1 ≠ la2 := o_nefld (pF_a1_value.ext E2) FV2
  have nlb2 : a1 ≠ lb2 := o_nearv (pE_a1.ext E2) (hw _ (List.mem_of_getElem? (i := 2) rfl)) V2
  have f3 := pE_a1.ext E2
  have f4 := pF_a1_coder.ext E2
  have f5 := pF_a1_value.ext E2
  have K6 : Keep h0 h2 [a1] := (Keep.refl h0 [a1]).ext E2
  have zz2 : n0 ≤ h2.size := Nat.le_trans Z0 E2.1
  refine o_getfield X2 hx hZ hown (host := "") (Or.inl (hw _ (List.mem_of_getElem? (i := 28) rfl))) Via.refl e2 FV2 (hb hby d_jdk_42_method_149_code_11) (n := 14) rfl ?_
  intro T7 X7 e7
  refine o_putfield X7 hx hZ hown (host := "") (Or.inl (hw _ (List.mem_of_getElem? (i := 28) rfl))) Via.refl e7 f5 f3 (Or.inr ⟨(hw _ (List.mem_of_getElem? (i := 29) rfl)), rfl, hnm⟩) (hw _ (List.mem_of_getElem? (i := 2) rfl)) (ty := (.array .byte)) (by decide) rfl rfl (hb hby d_jdk_42_method_149_code_14) (n := 17) rfl ?_
  intro T8 h8 X8 e8 W8 F8 E_8
  have f9 := f4.other W8 (Or.inr (slot_ne (Or.inr (hw _ (List.mem_of_getElem? (i := 27) rfl))) (Or.inr (hw _ (List.mem_of_getElem? (i := 29) rfl))) (by decide) (t := .byte) (t' := (.array .byte)) (by decide) (by decide)))
  have f10 := A2.wr W8
  have f11 := FC2.other W8 (Or.inl (Ne.symm nla2))
  have f12 := FV2.other W8 (Or.inl (Ne.symm nla2))
  have f13 := V2.other W8 (Ne.symm nlb2)
  have zz8 : n0 ≤ h8.size := Nat.le_trans zz2 (Nat.le_of_eq W8.size.symm)
  have N14 := Fr.snoc X8 N0 pg
  have K15 : Keep h0 h8 [a1] := K6.wr W8 (Or.inl (List.mem_of_getElem? (i := 0) rfl))
  refine o_aloadN X8 hx (hb hby d_jdk_42_method_149_code_17) (v := (.ref a1)) rfl rfl (n := 18) rfl ?_
  refine o_ldcA X8 hx hZ hown (hw _ (List.mem_of_getElem? (i := 215) rfl)) LI2 (hb hby d_jdk_42_method_149_code_18) (n := 20) rfl ?_
  refine o_getfield X8 hx hZ hown (host := "") (Or.inl (hw _ (List.mem_of_getElem? (i := 26) rfl))) Via.refl e8 f11 (hb hby d_jdk_42_method_149_code_20) (n := 23) rfl ?_
  intro T16 X16 e16
  refine o_putfield X16 hx hZ hown (host := "") (Or.inl (hw _ (List.mem_of_getElem? (i := 26) rfl))) Via.refl e16 f9 E_8 (Or.inr ⟨(hw _ (List.mem_of_getElem? (i := 27) rfl)), rfl, hnm⟩) (hw _ (List.mem_of_getElem? (i := 2) rfl)) (ty := .byte) (by decide) rfl rfl (hb hby d_jdk_42_method_149_code_23) (n := 26) rfl ?_
  intro T17 h17 X17 e17 W17 F17 E_17
  have f18 := F8.other W17 (Or.inr (slot_ne (Or.inr (hw _ (List.mem_of_getElem? (i := 29) rfl))) (Or.inr (hw _ (List.mem_of_getElem? (i := 27) rfl))) (by decide) (t := (.array .byte)) (t' := .byte) (by decide) (by decide)))
  have f19 := f10.wr W17
  have f20 := f11.other W17 (Or.inl (Ne.symm nla2))
  have f21 := f12.other W17 (Or.inl (Ne.symm nla2))
  have f22 := f13.other W17 (Ne.symm nlb2)
  have zz17 : n0 ≤ h17.size := Nat.le_trans zz8 (Nat.le_of_eq W17.size.symm)
  have N23 := Fr.snoc X17 N14 pg
  have K24 : Keep h0 h17 [a1] := K15.wr W17 (Or.inl (List.mem_of_getElem? (i := 0) rfl))
  exact o_returnW X17 hx S2 (Nat.le_trans (Nat.le_trans hk2 (Nat.le_of_eq W8.size.symm)) (Nat.le_of_eq W17.size.symm)) hret hlk (hb hby d_jdk_42_method_149_code_26) (by decide) (by decide) e17 (fun vm hW => o_ibW (s := s.setVm _) IB2 hW) ⟨lb2, lk2, rfl, N23, K24, nlb2, E_17, F17, f18, f22⟩
theorem o_ef84 (m : MethodId) (a1 : Addr) (g : Addr) : entryFrame m #[(.ref a1), (.ref g)] 2 = mkF m 0 #[.val (.ref a1), .val (.ref g)] [] := by first | (simp [entryFrame, mkF, argsToLocals, Value.category]; done) | rfl
set_option maxRecDepth 65536 in
set_option maxHeartbeats 40000000 in
theorem c_in1E (l : Launch) (Z : State) (a0 : Array Value) (hw : ∀ d ∈ tables_1, d.before a0 Z = true) (a1 g : Addr) (kg : ClassId) (h0 : Heap) (n0 : Nat) (Z0 : n0 ≤ h0.size) (pg : n0 ≤ a1) (pE_a1 : Exa Z h0 a1 "java/lang/String") (pF_a1_coder : Fld Z h0 a1 "java/lang/String" "coder" "B" (.int (0 : Int32))) (pF_a1_value : Fld Z h0 a1 "java/lang/String" "value" "[B" .null) (hkeep : ∀ (b : Addr) (cl : Cell), Z.heap[b]? = some cl → h0[b]? = some cl) (hheld : ∀ q ∈ [("com/example/estim365/estim365/cli/Option", 51), ("java/lang/String", 7)], Jvm.Lit.constHeld Z q.1 q.2) (hcw : Jvm.Lit.compactW.before a0 Z = true) (pV : Arv Z h0 g kg .char (0 : Int32) [] (.int (0 : Int32))) (pne : a1 ≠ g) :
    DoesW l Z (⟨"java/lang/String", "<init>", "([C)V"⟩ : MethodName) jdk_42_method_3_code 2 none [] ({ frames := 2, cells := 2, slots := 4, locals := 29 } : Room) #[(.ref a1), (.ref g)] h0 (fun vm => IB Z vm []) (fun v h L => ∃ (n1 : Addr) (kn : ClassId), v = none ∧ Fr n0 L ∧ Keep h0 h [a1] ∧ a1 ≠ n1 ∧ Exa Z h a1 "java/lang/String" ∧ Fld Z h a1 "java/lang/String" "coder" "B" (.int (0 : Int32)) ∧ Fld Z h a1 "java/lang/String" "value" "[B" (.ref n1) ∧ Arv Z h n1 kn .byte (0 : Int32) [] (.int (0 : Int32))) (fun vm => IB Z vm [""]) := by
  refine DoesW.of (plainFor_of_name o_pn1) ?_
  intro p e s m below meth c T0 hx hby hml hown hnm hret hlk hZ X0 e0 es0 IB0 S0
  have hown : (s.setVm s.vm).vm.findClass "java/lang/String" = some m.cls := hown
  have hZ : Z.Warmed39 (s.setVm s.vm).vm := hZ
  have hml : c.maxLocals = 2 := hml
  have hret : meth.sig.returnType = none := hret
  refine o_entry (o_ef84 m a1 g) ?_
  have N0 := Fr.nil n0
  refine o_aloadN X0 hx (hb hby d_jdk_42_method_3_code_0) (v := (.ref a1)) rfl rfl (n := 1) rfl ?_
  refine o_aloadN X0 hx (hb hby d_jdk_42_method_3_code_1) (v := (.ref g)) rfl rfl (n := 2) rfl ?_
  refine o_iconst X0 hx (hb hby d_jdk_42_method_3_code_2) (v := (0 : Int32)) rfl (n := 3) rfl ?_
  refine o_aloadN X0 hx (hb hby d_jdk_42_method_3_code_3) (v := (.ref g)) rfl rfl (n := 4) rfl ?_
  refine o_arraylength X0 hx hZ e0 pV (hb hby d_jdk_42_method_3_code_4) (n := 5) rfl ?_
  refine o_aconst_null X0 hx (hb hby d_jdk_42_method_3_code_5) (n := 6) rfl ?_
  refine o_callNW X0 hx hZ rfl hown (hw _ (List.mem_of_getElem? (i := 7) rfl)) (hw _ (List.mem_of_getElem? (i := 8) rfl)) (hw _ (List.mem_of_getElem? (i := 3) rfl)) (hw _ (List.mem_of_getElem? (i := 10) rfl)) (by decide) e0 (a := a1) (argsL := [(.ref g), (.int (0 : Int32)), (.int (0 : Int32)), .null]) (rest := []) IB0 (c_in4E l Z a0 hw a1 g h0 n0 Z0 pg pE_a1 pF_a1_coder pF_a1_value hkeep hheld hcw) 0 (by decide) (by decide) (by decide) (by decide) (by rw [hml]; rfl) (lenOf o_pd3 rfl) rfl (Nat.le_of_eq rfl) (hb hby d_jdk_42_method_3_code_6) (n := 9) rfl ?_
  intro v1 T1 L1 X1 S1 hg1 hZ hown IB1 q1
  have X1 : Stand p l e _ (s.setVm T1.vm) m _ below meth c T1 _ _ _ := X1
  have S1 := State.Since.trans S0 S1 (Nat.le_trans (Nat.zero_le _) hg1)
  have hZ : Z.Warmed39 (s.setVm T1.vm).vm := hZ
  have hown : (s.setVm T1.vm).vm.findClass "java/lang/String" = some m.cls := hown
  obtain ⟨n1_1, kn_1, rfl, Nq1, K1, nq1, o1_0, o1_1, o1_2, o1_3⟩ := q1
  have N2 := Fr.app N0 Nq1
  have f3 := pE_a1.keep K1
  have f6 := pV.keep K1 (ninS (Ne.symm pne) nin0)
  have zz1 : n0 ≤ T1.heap.size := Nat.le_trans Z0 K1.1
  have K7 : Keep h0 T1.heap [a1] := (Keep.refl h0 [a1]).trans K1 (allS (P := fun x => x ∈ [a1] ∨ h0.size ≤ x) (Or.inl (List.mem_of_getElem? (i := 0) rfl)) all0)
  show Goes _ _ p e below s _ _ _ (T1.setTop (mkF m 9 #[.val (.ref a1), .val (.ref g)] []))
  exact o_returnW X1 hx S1 (Nat.le_refl _) hret hlk (hb hby d_jdk_42_method_3_code_9) (by decide) (by decide) (rfl : T1.heap = T1.heap) (fun vm hW => o_ibW (s := s.setVm _) IB1 hW) ⟨n1_1, kn_1, rfl, N2, K7, nq1, o1_0, o1_1, o1_2, o1_3⟩
theorem d_prog_5_method_8_code_14 : decode prog_5_method_8_code 14 = .ok (.new 44, 3) := by decide +kernel
theorem d_prog_5_method_8_code_17 : decode prog_5_method_8_code 17 = .ok (.dup, 1) := by decide +kernel
theorem d_prog_5_method_8_code_18 : decode prog_5_method_8_code 18 = .ok (.invokespecial 46, 3) := by decide +kernel
theorem d_prog_5_method_8_code_21 : decode prog_5_method_8_code 21 = .ok (.aload_n 0, 1) := by decide +kernel
theorem d_prog_5_method_8_code_22 : decode prog_5_method_8_code 22 = .ok (.getfield 7, 3) := by decide +kernel
theorem d_prog_5_method_8_code_25 : decode prog_5_method_8_code 25 = .ok (.invokevirtual 47, 3) := by decide +kernel
theorem o_pd24 : parseMethodDescriptor "(Ljava/lang/String;)Ljava/lang/StringBuilder;" = some ⟨[(.object "java/lang/String")], some (.object "java/lang/StringBuilder")⟩ := by decide +kernel
theorem d_prog_5_method_8_code_28 : decode prog_5_method_8_code 28 = .ok (.ldc 51, 2) := by decide +kernel
theorem d_prog_5_method_8_code_30 : decode prog_5_method_8_code 30 = .ok (.invokevirtual 47, 3) := by decide +kernel
theorem d_prog_5_method_8_code_33 : decode prog_5_method_8_code 33 = .ok (.aload_n 0, 1) := by decide +kernel
theorem d_prog_5_method_8_code_34 : decode prog_5_method_8_code 34 = .ok (.getfield 13, 3) := by decide +kernel
theorem d_prog_5_method_8_code_37 : decode prog_5_method_8_code 37 = .ok (.invokevirtual 47, 3) := by decide +kernel
theorem d_prog_5_method_8_code_40 : decode prog_5_method_8_code 40 = .ok (.invokevirtual 53, 3) := by decide +kernel
theorem o_pd25 : parseMethodDescriptor "()Ljava/lang/String;" = some ⟨[], some (.object "java/lang/String")⟩ := by decide +kernel
theorem o_ef85 (m : MethodId) (a1 : Addr) : entryFrame m #[(.ref a1)] 1 = mkF m 0 #[.val (.ref a1)] [] := by first | (simp [entryFrame, mkF, argsToLocals, Value.category]; done) | rfl
set_option maxRecDepth 65536 in
set_option maxHeartbeats 40000000 in
theorem c_gvn_0 (l : Launch) (Z : State) (a0 : Array Value) (hw : ∀ d ∈ tables_1, d.before a0 Z = true) (a1 : Addr) (m1 : Addr) (mu : Addr) (ku : ClassId) (v1 : Addr) (vu : Addr) (kv : ClassId) (cs : Int32) (ze0 : Int32) (ze1 : Int32) (h0 : Heap) (pE_a1 : Exa Z h0 a1 "com/example/estim365/estim365/cli/Option") (pF_a1_name : Fld Z h0 a1 "com/example/estim365/estim365/cli/Option" "name" "Ljava/lang/String;" (.ref m1)) (pF_a1_value : Fld Z h0 a1 "com/example/estim365/estim365/cli/Option" "value" "Ljava/lang/String;" (.ref v1)) (pE_m1 : Exa Z h0 m1 "java/lang/String") (pF_m1_coder : Fld Z h0 m1 "java/lang/String" "coder" "B" (.int (0 : Int32))) (pF_m1_value : Fld Z h0 m1 "java/lang/String" "value" "[B" (.ref mu)) (pV_mu : Arv Z h0 mu ku .byte (2 : Int32) [(.int ze0), (.int ze1)] (.int (0 : Int32))) (pE_v1 : Exa Z h0 v1 "java/lang/String") (pF_v1_coder : Fld Z h0 v1 "java/lang/String" "coder" "B" (.int (0 : Int32))) (pF_v1_value : Fld Z h0 v1 "java/lang/String" "value" "[B" (.ref vu)) (pV_vu : Arv Z h0 vu kv .byte (0 : Int32) [] (.int (0 : Int32))) (pS_COMPACT_STRINGS : Sta Z h0 "java/lang/String" "COMPACT_STRINGS" "Z" (.int cs)) (hcs : ¬ cs = (0 : Int32)) (hkeep : ∀ (b : Addr) (cl : Cell), Z.heap[b]? = some cl → h0[b]? = some cl) (hheld : ∀ q ∈ [("com/example/estim365/estim365/cli/Option", 51), ("java/lang/String", 7)], Jvm.Lit.constHeld Z q.1 q.2) (hcw : Jvm.Lit.compactW.before a0 Z = true) :
    DoesW l Z (⟨"com/example/estim365/estim365/cli/Option", "given", "()Ljava/lang/String;"⟩ : MethodName) prog_5_method_8_code 1 (some (.object "java/lang/String")) [] ({ frames := 6, cells := 6, slots := 35, locals := 91 } : Room) #[(.ref a1)] h0 (fun vm => IB Z vm [""]) (fun v h L => ∃ (s1 n1 : Addr) (kn : ClassId), v = some (.ref s1) ∧ Fr h0.size L ∧ Keep h0 h [] ∧ h0.size ≤ s1 ∧ h0.size ≤ n1 ∧ Exa Z h s1 "java/lang/String" ∧ Fld Z h s1 "java/lang/String" "coder" "B" (.int (0 : Int32)) ∧ Fld Z h s1 "java/lang/String" "value" "[B" (.ref n1) ∧ Arv Z h n1 kn .byte (3 : Int32) [(.int ze0), (.int ze1), (.int (32 : Int32))] (.int (0 : Int32))) (fun vm => IB Z vm (" " :: [""])) := by
  refine DoesW.of (plainFor_of_name o_pn5) ?_
  intro p e s m below meth c T0 hx hby hml hown hnm hret hlk hZ X0 e0 es0 IB0 S0
  have hown : (s.setVm s.vm).vm.findClass "com/example/estim365/estim365/cli/Option" = some m.cls := hown
  have hZ : Z.Warmed39 (s.setVm s.vm).vm := hZ
  have hml : c.maxLocals = 1 := hml
  have hret : meth.sig.returnType = some (.object "java/lang/String") := hret
  refine o_entry (o_ef85 m a1) ?_
  have N0 := Fr.nil h0.size
  have wS : ∀ a ∈ Bundle.stringAtoms, a.before a0 Z = true := o_atoms (hw _ (List.mem_of_getElem? (i := 3) rfl)) (hw _ (List.mem_of_getElem? (i := 2) rfl)) (hw _ (List.mem_of_getElem? (i := 19) rfl)) (hw _ (List.mem_of_getElem? (i := 29) rfl)) (hw _ (List.mem_of_getElem? (i := 27) rfl)) (hw _ (List.mem_of_getElem? (i := 148) rfl)) (hw _ (List.mem_of_getElem? (i := 149) rfl))
  refine o_aloadN X0 hx (hb hby d_prog_5_method_8_code_0) (v := (.ref a1)) rfl rfl (n := 1) rfl ?_
  refine o_callV X0 hx hZ hown (hw _ (List.mem_of_getElem? (i := 81) rfl)) (hw _ (List.mem_of_getElem? (i := 72) rfl)) (hw _ (List.mem_of_getElem? (i := 74) rfl)) (hw _ (List.mem_of_getElem? (i := 73) rfl)) (hw _ (List.mem_of_getElem? (i := 53) rfl)) (hw _ (List.mem_of_getElem? (i := 75) rfl)) (by decide) e0 pE_a1 (argsL := []) (rest := []) (c_isf0 l Z a0 hw a1 v1 h0 pE_a1 pF_a1_value) 0 (by decide) (by decide) (by decide) (by decide) (by rw [hml]; rfl) (lenOf o_pd20 rfl) rfl (Nat.le_of_eq rfl) (hb hby d_prog_5_method_8_code_1) (n := 4) rfl ?_
  intro v1 T1 L1 X1 q1
  obtain ⟨rfl, e1, rfl⟩ := q1
  have N2 := Fr.app N0 (Fr.nil h0.size)
  show Goes _ _ p e below s _ _ _ (T1.setTop (mkF m 4 #[.val (.ref a1)] [(.int (0 : Int32))]))
  refine o_ifY X1 hx (hb hby d_prog_5_method_8_code_4) (XT.i0_eq_t (by decide)) (by decide) (n := 14) (by decide) ?_
  refine o_new X1 hx hZ hown (hw _ (List.mem_of_getElem? (i := 82) rfl)) (hw _ (List.mem_of_getElem? (i := 83) rfl)) (hw _ (List.mem_of_getElem? (i := 84) rfl)) e1 (hb hby d_prog_5_method_8_code_14) (by decide) (by decide) (n := 17) rfl ?_
  intro T3 h3 b3 X3 e3 g3 E3 A3 D3
  have ne4 : a1 ≠ b3 := Nat.ne_of_lt (Nat.lt_of_lt_of_eq pE_a1.lt g3.symm)
  have ne5 : m1 ≠ b3 := Nat.ne_of_lt (Nat.lt_of_lt_of_eq pE_m1.lt g3.symm)
  have ne6 : mu ≠ b3 := Nat.ne_of_lt (Nat.lt_of_lt_of_eq pV_mu.lt g3.symm)
  have ne7 : v1 ≠ b3 := Nat.ne_of_lt (Nat.lt_of_lt_of_eq pE_v1.lt g3.symm)
  have ne8 : vu ≠ b3 := Nat.ne_of_lt (Nat.lt_of_lt_of_eq pV_vu.lt g3.symm)
  have gg3 : h0.size ≤ b3 := Nat.le_trans (Nat.le_refl h0.size) (Nat.le_of_eq g3.symm)
  have zz3 : h0.size ≤ h3.size := Nat.le_trans (Nat.le_refl h0.size) E3.1
  have sz3 : h0.size ≤ b3 := Nat.le_trans (Keep.refl h0 []).1 (Nat.le_of_eq g3.symm)
  have f9 := pE_a1.ext E3
  have f10 := pF_a1_name.ext E3
  have f11 := pF_a1_value.ext E3
  have f12 := pE_m1.ext E3
  have f13 := pF_m1_coder.ext E3
  have f14 := pF_m1_value.ext E3
  have f15 := pV_mu.ext E3
  have f16 := pE_v1.ext E3
  have f17 := pF_v1_coder.ext E3
  have f18 := pF_v1_value.ext E3
  have f19 := pV_vu.ext E3
  have f20 := pS_COMPACT_STRINGS.ext E3
  have K21 : Keep h0 h3 [] := (Keep.refl h0 []).ext E3
  have f22 : Fld Z h3 b3 "java/lang/AbstractStringBuilder" "value" "[B" .null := D3 (Or.inl (hw _ (List.mem_of_getElem? (i := 97) rfl))) (ty := (.array .byte)) (by decide)
  have f23 : Fld Z h3 b3 "java/lang/AbstractStringBuilder" "coder" "B" (.int (0 : Int32)) := D3 (Or.inl (hw _ (List.mem_of_getElem? (i := 99) rfl))) (ty := .byte) (by decide)
  have f24 : Fld Z h3 b3 "java/lang/AbstractStringBuilder" "count" "I" (.int (0 : Int32)) := D3 (Or.inl (hw _ (List.mem_of_getElem? (i := 121) rfl))) (ty := .int) (by decide)
  refine o_dup X3 hx (hb hby d_prog_5_method_8_code_17) rfl (n := 18) rfl ?_
  refine o_callN X3 hx hZ rfl hown (hw _ (List.mem_of_getElem? (i := 85) rfl)) (hw _ (List.mem_of_getElem? (i := 86) rfl)) (hw _ (List.mem_of_getElem? (i := 84) rfl)) (hw _ (List.mem_of_getElem? (i := 87) rfl)) (by decide) e3 (a := b3) (argsL := []) (rest := [(.ref b3)]) (c_sbi l Z a0 hw b3 cs h3 h0.size zz3 gg3 A3 f22 f23 f24 f20 hcs) 1 (by decide) (by decide) (by decide) (by decide) (by rw [hml]; rfl) (lenOf o_pd7 rfl) rfl (Nat.le_of_eq rfl) (hb hby d_prog_5_method_8_code_18) (n := 21) rfl ?_
  intro v25 T25 L25 X25 q25
  obtain ⟨n1_25, kn_25, rfl, Nq25, K25, sq25_n1, o25_0, o25_1, o25_2, o25_3, o25_4⟩ := q25
  have N26 := Fr.app N2 Nq25
  have ne27 : a1 ≠ n1_25 := Nat.ne_of_lt (Nat.lt_of_lt_of_le f9.lt sq25_n1)
  have ne28 : m1 ≠ n1_25 := Nat.ne_of_lt (Nat.lt_of_lt_of_le f12.lt sq25_n1)
  have ne29 : mu ≠ n1_25 := Nat.ne_of_lt (Nat.lt_of_lt_of_le f15.lt sq25_n1)
  have ne30 : v1 ≠ n1_25 := Nat.ne_of_lt (Nat.lt_of_lt_of_le f16.lt sq25_n1)
  have ne31 : vu ≠ n1_25 := Nat.ne_of_lt (Nat.lt_of_lt_of_le f19.lt sq25_n1)
  have ne32 : b3 ≠ n1_25 := Nat.ne_of_lt (Nat.lt_of_lt_of_le A3.lt sq25_n1)
  have gg25_n1 : h0.size ≤ n1_25 := Nat.le_trans zz3 sq25_n1
  have sz25_n1 : h0.size ≤ n1_25 := Nat.le_trans K21.1 sq25_n1
  have f33 := f9.keep K25
  have f34 := f10.keep K25 (ninS ne4 nin0)
  have f35 := f11.keep K25 (ninS ne4 nin0)
  have f36 := f12.keep K25
  have f37 := f13.keep K25 (ninS ne5 nin0)
  have f38 := f14.keep K25 (ninS ne5 nin0)
  have f39 := f15.keep K25 (ninS ne6 nin0)
  have f40 := f16.keep K25
  have f41 := f17.keep K25 (ninS ne7 nin0)
  have f42 := f18.keep K25 (ninS ne7 nin0)
  have f43 := f19.keep K25 (ninS ne8 nin0)
  have f44 := o_sta_keep f20 K25 (allS (P := fun a => ∀ cl : Cell, h3[a]? = some cl → cl.vm.isStatics = false) (o_exa_ns A3) all0)
  have f45 := A3.keep K25
  have zz25 : h0.size ≤ T25.heap.size := Nat.le_trans zz3 K25.1
  have K49 : Keep h0 T25.heap [] := K21.trans K25 (allS (P := fun x => x ∈ [] ∨ h0.size ≤ x) (Or.inr sz3) all0)
  show Goes _ _ p e below s _ _ _ (T25.setTop (mkF m 21 #[.val (.ref a1)] [(.ref b3)]))
  refine o_aloadN X25 hx (hb hby d_prog_5_method_8_code_21) (v := (.ref a1)) rfl rfl (n := 22) rfl ?_
  refine o_getfield X25 hx hZ hown (host := "") (Or.inl (hw _ (List.mem_of_getElem? (i := 63) rfl))) Via.refl (rfl : T25.heap = T25.heap) f34 (hb hby d_prog_5_method_8_code_22) (n := 25) rfl ?_
  intro T50 X50 e50
  refine o_callV X50 hx hZ hown (hw _ (List.mem_of_getElem? (i := 100) rfl)) (hw _ (List.mem_of_getElem? (i := 101) rfl)) (hw _ (List.mem_of_getElem? (i := 103) rfl)) (hw _ (List.mem_of_getElem? (i := 102) rfl)) (hw _ (List.mem_of_getElem? (i := 84) rfl)) (hw _ (List.mem_of_getElem? (i := 104) rfl)) (by decide) e50 o25_0 (argsL := [(.ref m1)]) (rest := []) (c_sp20 l Z a0 hw b3 m1 mu ku n1_25 kn_25 cs ze0 ze1 T25.heap h0.size zz25 gg3 gg25_n1 o25_0 o25_1 o25_2 o25_3 f36 f37 f38 f39 o25_4 ne29 ne28 ne32 (Ne.symm ne5) (Ne.symm ne6) f44 hcs) 0 (by decide) (by decide) (by decide) (by decide) (by rw [hml]; rfl) (lenOf o_pd24 rfl) rfl (Nat.le_of_eq rfl) (hb hby d_prog_5_method_8_code_25) (n := 28) rfl ?_
  intro v51 T51 L51 X51 q51
  obtain ⟨rfl, Nq51, K51, o51_0, o51_1, o51_2, o51_3, o51_4⟩ := q51
  have N52 := Fr.app N26 Nq51
  have f53 := f33.keep K51
  have f54 := f34.keep K51 (ninS ne4 (ninS ne27 nin0))
  have f55 := f35.keep K51 (ninS ne4 (ninS ne27 nin0))
  have f56 := f36.keep K51
  have f57 := f37.keep K51 (ninS ne5 (ninS ne28 nin0))
  have f58 := f38.keep K51 (ninS ne5 (ninS ne28 nin0))
  have f59 := f39.keep K51 (ninS ne6 (ninS ne29 nin0))
  have f60 := f40.keep K51
  have f61 := f41.keep K51 (ninS ne7 (ninS ne30 nin0))
  have f62 := f42.keep K51 (ninS ne7 (ninS ne30 nin0))
  have f63 := f43.keep K51 (ninS ne8 (ninS ne31 nin0))
  have f64 := o_sta_keep f44 K51 (allS (P := fun a => ∀ cl : Cell, T25.heap[a]? = some cl → cl.vm.isStatics = false) (o_exa_ns o25_0) (allS (P := fun a => ∀ cl : Cell, T25.heap[a]? = some cl → cl.vm.isStatics = false) (o_arv_ns o25_4) all0))
  have f65 := o25_0.keep K51
  have zz51 : h0.size ≤ T51.heap.size := Nat.le_trans zz25 K51.1
  have K70 : Keep h0 T51.heap [] := K49.trans K51 (allS (P := fun x => x ∈ [] ∨ h0.size ≤ x) (Or.inr sz3) (allS (P := fun x => x ∈ [] ∨ h0.size ≤ x) (Or.inr sz25_n1) all0))
  show Goes _ _ p e below s _ _ _ (T51.setTop (mkF m 28 #[.val (.ref a1)] [(.ref b3)]))
  refine o_ldcS X51 hx hZ hown (hw _ (List.mem_of_getElem? (i := 147) rfl)) wS (rfl : T51.heap = T51.heap) S0 (Nat.le_trans (Nat.le_trans (Nat.le_trans (Nat.zero_le _) E3.1) K25.1) K51.1) (by rw [es0]; exact N52) (fun b cl q => by rw [es0]; exact hkeep b cl q) IB0 (by decide) (hheld _ (List.mem_of_getElem? (i := 0) rfl)) hcw (vs := [(.int (32 : Int32))]) (z := (1 : Int32)) ⟨by decide, rfl⟩ (by decide) (by decide) (hb hby d_prog_5_method_8_code_28) (nn := 4) (by decide) (by decide) (by decide) (by decide) (n := 30) rfl ?_
  intro T71 h71 la71 lb71 lk71 k171 X71 e71 E71 S71 hk71 hZ hown A71 FC71 FV71 V71 IB71 LI71 DD71
  obtain ⟨nx71_b3, ny71_b3⟩ := o_nel DD71 (by rw [es0]; exact sz3) o51_0.lt
  obtain ⟨nx71_n1_25, ny71_n1_25⟩ := o_nel DD71 (by rw [es0]; exact sz25_n1) o51_4.lt
  have f72 := f53.ext E71
  have f73 := f54.ext E71
  have f74 := f55.ext E71
  have f75 := f56.ext E71
  have f76 := f57.ext E71
  have f77 := f58.ext E71
  have f78 := f59.ext E71
  have f79 := f60.ext E71
  have f80 := f61.ext E71
  have f81 := f62.ext E71
  have f82 := f63.ext E71
  have f83 := f64.ext E71
  have f84 := o51_0.ext E71
  have f85 := o51_1.ext E71
  have f86 := o51_2.ext E71
  have f87 := o51_3.ext E71
  have f88 := o51_4.ext E71
  have K89 : Keep h0 h71 [] := K70.ext E71
  have zz71 : h0.size ≤ h71.size := Nat.le_trans zz51 E71.1
  refine o_callV X71 hx hZ hown (hw _ (List.mem_of_getElem? (i := 100) rfl)) (hw _ (List.mem_of_getElem? (i := 101) rfl)) (hw _ (List.mem_of_getElem? (i := 103) rfl)) (hw _ (List.mem_of_getElem? (i := 102) rfl)) (hw _ (List.mem_of_getElem? (i := 84) rfl)) (hw _ (List.mem_of_getElem? (i := 104) rfl)) (by decide) e71 f84 (argsL := [(.ref la71)]) (rest := []) (c_sp12 l Z a0 hw b3 la71 lb71 lk71 n1_25 kn_25 cs ze0 ze1 (32 : Int32) h71 h0.size zz71 gg3 gg25_n1 f84 f85 f86 f87 A71 FC71 FV71 V71 f88 (Ne.symm ny71_n1_25) (Ne.symm nx71_n1_25) ne32 nx71_b3 ny71_b3 f83 hcs) 0 (by decide) (by decide) (by decide) (by decide) (by rw [hml]; rfl) (lenOf o_pd24 rfl) rfl (Nat.le_of_eq rfl) (hb hby d_prog_5_method_8_code_30) (n := 33) rfl ?_
  intro v90 T90 L90 X90 q90
  obtain ⟨rfl, Nq90, K90, o90_0, o90_1, o90_2, o90_3, o90_4⟩ := q90
  have N91 := Fr.app N52 Nq90
  have f92 := f72.keep K90
  have f93 := f73.keep K90 (ninS ne4 (ninS ne27 nin0))
  have f94 := f74.keep K90 (ninS ne4 (ninS ne27 nin0))
  have f95 := f75.keep K90
  have f96 := f76.keep K90 (ninS ne5 (ninS ne28 nin0))
  have f97 := f77.keep K90 (ninS ne5 (ninS ne28 nin0))
  have f98 := f78.keep K90 (ninS ne6 (ninS ne29 nin0))
  have f99 := f79.keep K90
  have f100 := f80.keep K90 (ninS ne7 (ninS ne30 nin0))
  have f101 := f81.keep K90 (ninS ne7 (ninS ne30 nin0))
  have f102 := f82.keep K90 (ninS ne8 (ninS ne31 nin0))
  have f103 := o_sta_keep f83 K90 (allS (P := fun a => ∀ cl : Cell, h71[a]? = some cl → cl.vm.isStatics = false) (o_exa_ns f84) (allS (P := fun a => ∀ cl : Cell, h71[a]? = some cl → cl.vm.isStatics = false) (o_arv_ns f88) all0))
  have f104 := f84.keep K90
  have f109 := A71.keep K90
  have f110 := FC71.keep K90 (ninS (Ne.symm nx71_b3) (ninS (Ne.symm nx71_n1_25) nin0))
  have f111 := FV71.keep K90 (ninS (Ne.symm nx71_b3) (ninS (Ne.symm nx71_n1_25) nin0))
  have f112 := V71.keep K90 (ninS (Ne.symm ny71_b3) (ninS (Ne.symm ny71_n1_25) nin0))
  have zz90 : h0.size ≤ T90.heap.size := Nat.le_trans zz71 K90.1
  have K113 : Keep h0 T90.heap [] := K89.trans K90 (allS (P := fun x => x ∈ [] ∨ h0.size ≤ x) (Or.inr sz3) (allS (P := fun x => x ∈ [] ∨ h0.size ≤ x) (Or.inr sz25_n1) all0))
  show Goes _ _ p e below s _ _ _ (T90.setTop (mkF m 33 #[.val (.ref a1)] [(.ref b3)]))
  refine o_aloadN X90 hx (hb hby d_prog_5_method_8_code_33) (v := (.ref a1)) rfl rfl (n := 34) rfl ?_
  refine o_getfield X90 hx hZ hown (host := "") (Or.inl (hw _ (List.mem_of_getElem? (i := 65) rfl))) Via.refl (rfl : T90.heap = T90.heap) f94 (hb hby d_prog_5_method_8_code_34) (n := 37) rfl ?_
  intro T114 X114 e114
  refine o_callV X114 hx hZ hown (hw _ (List.mem_of_getElem? (i := 100) rfl)) (hw _ (List.mem_of_getElem? (i := 101) rfl)) (hw _ (List.mem_of_getElem? (i := 103) rfl)) (hw _ (List.mem_of_getElem? (i := 102) rfl)) (hw _ (List.mem_of_getElem? (i := 84) rfl)) (hw _ (List.mem_of_getElem? (i := 104) rfl)) (by decide) e114 o90_0 (argsL := [(.ref v1)]) (rest := []) (c_sp03 l Z a0 hw b3 v1 vu kv n1_25 kn_25 cs ze0 ze1 (32 : Int32) T90.heap h0.size zz90 gg3 gg25_n1 o90_0 o90_1 o90_2 o90_3 f99 f100 f101 f102 o90_4 ne31 ne30 ne32 (Ne.symm ne7) (Ne.symm ne8) f103 hcs) 0 (by decide) (by decide) (by decide) (by decide) (by rw [hml]; rfl) (lenOf o_pd24 rfl) rfl (Nat.le_of_eq rfl) (hb hby d_prog_5_method_8_code_37) (n := 40) rfl ?_
  intro v115 T115 L115 X115 q115
  obtain ⟨rfl, Nq115, K115, o115_0, o115_1, o115_2, o115_3, o115_4⟩ := q115
  have N116 := Fr.app N91 Nq115
  have f117 := f92.keep K115
  have f118 := f93.keep K115 (ninS ne4 (ninS ne27 nin0))
  have f119 := f94.keep K115 (ninS ne4 (ninS ne27 nin0))
  have f120 := f95.keep K115
  have f121 := f96.keep K115 (ninS ne5 (ninS ne28 nin0))
  have f122 := f97.keep K115 (ninS ne5 (ninS ne28 nin0))
  have f123 := f98.keep K115 (ninS ne6 (ninS ne29 nin0))
  have f124 := f99.keep K115
  have f125 := f100.keep K115 (ninS ne7 (ninS ne30 nin0))
  have f126 := f101.keep K115 (ninS ne7 (ninS ne30 nin0))
  have f127 := f102.keep K115 (ninS ne8 (ninS ne31 nin0))
  have f128 := o_sta_keep f103 K115 (allS (P := fun a => ∀ cl : Cell, T90.heap[a]? = some cl → cl.vm.isStatics = false) (o_exa_ns o90_0) (allS (P := fun a => ∀ cl : Cell, T90.heap[a]? = some cl → cl.vm.isStatics = false) (o_arv_ns o90_4) all0))
  have f129 := o90_0.keep K115
  have f130 := f109.keep K115
  have f131 := f110.keep K115 (ninS (Ne.symm nx71_b3) (ninS (Ne.symm nx71_n1_25) nin0))
  have f132 := f111.keep K115 (ninS (Ne.symm nx71_b3) (ninS (Ne.symm nx71_n1_25) nin0))
  have f133 := f112.keep K115 (ninS (Ne.symm ny71_b3) (ninS (Ne.symm ny71_n1_25) nin0))
  have zz115 : h0.size ≤ T115.heap.size := Nat.le_trans zz90 K115.1
  have K138 : Keep h0 T115.heap [] := K113.trans K115 (allS (P := fun x => x ∈ [] ∨ h0.size ≤ x) (Or.inr sz3) (allS (P := fun x => x ∈ [] ∨ h0.size ≤ x) (Or.inr sz25_n1) all0))
  show Goes _ _ p e below s _ _ _ (T115.setTop (mkF m 40 #[.val (.ref a1)] [(.ref b3)]))
  refine o_callV X115 hx hZ hown (hw _ (List.mem_of_getElem? (i := 150) rfl)) (hw _ (List.mem_of_getElem? (i := 151) rfl)) (hw _ (List.mem_of_getElem? (i := 153) rfl)) (hw _ (List.mem_of_getElem? (i := 152) rfl)) (hw _ (List.mem_of_getElem? (i := 84) rfl)) (hw _ (List.mem_of_getElem? (i := 154) rfl)) (by decide) (rfl : T115.heap = T115.heap) o115_0 (argsL := []) (rest := []) (c_ts3_3 l Z a0 hw b3 n1_25 kn_25 cs ze0 ze1 (32 : Int32) T115.heap h0.size zz115 o115_0 o115_1 o115_2 o115_3 o115_4 f128 hcs) 0 (by decide) (by decide) (by decide) (by decide) (by rw [hml]; rfl) (lenOf o_pd25 rfl) rfl (Nat.le_of_eq rfl) (hb hby d_prog_5_method_8_code_40) (n := 43) rfl ?_
  intro v139 T139 L139 X139 q139
  obtain ⟨s1_139, n1_139, kn_139, rfl, Nq139, K139, sq139_s1, sq139_n1, o139_0, o139_1, o139_2, o139_3⟩ := q139
  have N140 := Fr.app N116 Nq139
  have ne141 : a1 ≠ s1_139 := Nat.ne_of_lt (Nat.lt_of_lt_of_le f117.lt sq139_s1)
  have ne142 : m1 ≠ s1_139 := Nat.ne_of_lt (Nat.lt_of_lt_of_le f120.lt sq139_s1)
  have ne143 : mu ≠ s1_139 := Nat.ne_of_lt (Nat.lt_of_lt_of_le f123.lt sq139_s1)
  have ne144 : v1 ≠ s1_139 := Nat.ne_of_lt (Nat.lt_of_lt_of_le f124.lt sq139_s1)
  have ne145 : vu ≠ s1_139 := Nat.ne_of_lt (Nat.lt_of_lt_of_le f127.lt sq139_s1)
  have ne146 : b3 ≠ s1_139 := Nat.ne_of_lt (Nat.lt_of_lt_of_le o115_0.lt sq139_s1)
  have ne147 : la71 ≠ s1_139 := Nat.ne_of_lt (Nat.lt_of_lt_of_le f130.lt sq139_s1)
  have ne148 : lb71 ≠ s1_139 := Nat.ne_of_lt (Nat.lt_of_lt_of_le f133.lt sq139_s1)
  have ne149 : n1_25 ≠ s1_139 := Nat.ne_of_lt (Nat.lt_of_lt_of_le o115_4.lt sq139_s1)
  have gg139_s1 : h0.size ≤ s1_139 := Nat.le_trans zz115 sq139_s1
  have sz139_s1 : h0.size ≤ s1_139 := Nat.le_trans K138.1 sq139_s1
  have ne150 : a1 ≠ n1_139 := Nat.ne_of_lt (Nat.lt_of_lt_of_le f117.lt sq139_n1)
  have ne151 : m1 ≠ n1_139 := Nat.ne_of_lt (Nat.lt_of_lt_of_le f120.lt sq139_n1)
  have ne152 : mu ≠ n1_139 := Nat.ne_of_lt (Nat.lt_of_lt_of_le f123.lt sq139_n1)
  have ne153 : v1 ≠ n1_139 := Nat.ne_of_lt (Nat.lt_of_lt_of_le f124.lt sq139_n1)
  have ne154 : vu ≠ n1_139 := Nat.ne_of_lt (Nat.lt_of_lt_of_le f127.lt sq139_n1)
  have ne155 : b3 ≠ n1_139 := Nat.ne_of_lt (Nat.lt_of_lt_of_le o115_0.lt sq139_n1)
  have ne156 : la71 ≠ n1_139 := Nat.ne_of_lt (Nat.lt_of_lt_of_le f130.lt sq139_n1)
  have ne157 : lb71 ≠ n1_139 := Nat.ne_of_lt (Nat.lt_of_lt_of_le f133.lt sq139_n1)
  have ne158 : n1_25 ≠ n1_139 := Nat.ne_of_lt (Nat.lt_of_lt_of_le o115_4.lt sq139_n1)
  have gg139_n1 : h0.size ≤ n1_139 := Nat.le_trans zz115 sq139_n1
  have sz139_n1 : h0.size ≤ n1_139 := Nat.le_trans K138.1 sq139_n1
  have f159 := f117.keep K139
  have f160 := f118.keep K139 nin0
  have f161 := f119.keep K139 nin0
  have f162 := f120.keep K139
  have f163 := f121.keep K139 nin0
  have f164 := f122.keep K139 nin0
  have f165 := f123.keep K139 nin0
  have f166 := f124.keep K139
  have f167 := f125.keep K139 nin0
  have f168 := f126.keep K139 nin0
  have f169 := f127.keep K139 nin0
  have f170 := o_sta_keep f128 K139 all0
  have f171 := o115_0.keep K139
  have f172 := f130.keep K139
  have f173 := f131.keep K139 nin0
  have f174 := f132.keep K139 nin0
  have f175 := f133.keep K139 nin0
  have f176 := o115_1.keep K139 nin0
  have f177 := o115_2.keep K139 nin0
  have f178 := o115_3.keep K139 nin0
  have f179 := o115_4.keep K139 nin0
  have zz139 : h0.size ≤ T139.heap.size := Nat.le_trans zz115 K139.1
  have K180 : Keep h0 T139.heap [] := K138.trans K139 all0
  show Goes _ _ p e below s _ _ _ (T139.setTop (mkF m 43 #[.val (.ref a1)] [(.ref s1_139)]))
  exact o_areturnW X139 hx S71 (Nat.le_trans (Nat.le_trans (Nat.le_trans hk71 K90.1) K115.1) K139.1) hret hlk rfl rfl (hb hby d_prog_5_method_8_code_43) (by decide) (by decide) (rfl : T139.heap = T139.heap) (fun vm hW => o_ibW (s := s.setVm _) IB71 hW) ⟨s1_139, n1_139, kn_139, rfl, N140, K180, sz139_s1, sz139_n1, o139_0, o139_1, o139_2, o139_3⟩
theorem o_ef86 (m : MethodId) (a1 : Addr) : entryFrame m #[(.ref a1)] 1 = mkF m 0 #[.val (.ref a1)] [] := by first | (simp [entryFrame, mkF, argsToLocals, Value.category]; done) | rfl
set_option maxRecDepth 65536 in
set_option maxHeartbeats 40000000 in
theorem c_gvn_1 (l : Launch) (Z : State) (a0 : Array Value) (hw : ∀ d ∈ tables_1, d.before a0 Z = true) (a1 : Addr) (m1 : Addr) (mu : Addr) (ku : ClassId) (v1 : Addr) (vu : Addr) (kv : ClassId) (cs : Int32) (ze0 : Int32) (ze1 : Int32) (zf0 : Int32) (h0 : Heap) (pE_a1 : Exa Z h0 a1 "com/example/estim365/estim365/cli/Option") (pF_a1_name : Fld Z h0 a1 "com/example/estim365/estim365/cli/Option" "name" "Ljava/lang/String;" (.ref m1)) (pF_a1_value : Fld Z h0 a1 "com/example/estim365/estim365/cli/Option" "value" "Ljava/lang/String;" (.ref v1)) (pE_m1 : Exa Z h0 m1 "java/lang/String") (pF_m1_coder : Fld Z h0 m1 "java/lang/String" "coder" "B" (.int (0 : Int32))) (pF_m1_value : Fld Z h0 m1 "java/lang/String" "value" "[B" (.ref mu)) (pV_mu : Arv Z h0 mu ku .byte (2 : Int32) [(.int ze0), (.int ze1)] (.int (0 : Int32))) (pE_v1 : Exa Z h0 v1 "java/lang/String") (pF_v1_coder : Fld Z h0 v1 "java/lang/String" "coder" "B" (.int (0 : Int32))) (pF_v1_value : Fld Z h0 v1 "java/lang/String" "value" "[B" (.ref vu)) (pV_vu : Arv Z h0 vu kv .byte (1 : Int32) [(.int zf0)] (.int (0 : Int32))) (pS_COMPACT_STRINGS : Sta Z h0 "java/lang/String" "COMPACT_STRINGS" "Z" (.int cs)) (hcs : ¬ cs = (0 : Int32)) (hkeep : ∀ (b : Addr) (cl : Cell), Z.heap[b]? = some cl → h0[b]? = some cl) (hheld : ∀ q ∈ [("com/example/estim365/estim365/cli/Option", 51), ("java/lang/String", 7)], Jvm.Lit.constHeld Z q.1 q.2) (hcw : Jvm.Lit.compactW.before a0 Z = true) :
    DoesW l Z (⟨"com/example/estim365/estim365/cli/Option", "given", "()Ljava/lang/String;"⟩ : MethodName) prog_5_method_8_code 1 (some (.object "java/lang/String")) [] ({ frames := 6, cells := 6, slots := 36, locals := 91 } : Room) #[(.ref a1)] h0 (fun vm => IB Z vm []) (fun v h L => ∃ (s1 n1 : Addr) (kn : ClassId), v = some (.ref s1) ∧ Fr h0.size L ∧ Keep h0 h [] ∧ h0.size ≤ s1 ∧ h0.size ≤ n1 ∧ Exa Z h s1 "java/lang/String" ∧ Fld Z h s1 "java/lang/String" "coder" "B" (.int (0 : Int32)) ∧ Fld Z h s1 "java/lang/String" "value" "[B" (.ref n1) ∧ Arv Z h n1 kn .byte (4 : Int32) [(.int ze0), (.int ze1), (.int (32 : Int32)), (.int zf0)] (.int (0 : Int32))) (fun vm => IB Z vm (" " :: [])) := by
  refine DoesW.of (plainFor_of_name o_pn5) ?_
  intro p e s m below meth c T0 hx hby hml hown hnm hret hlk hZ X0 e0 es0 IB0 S0
  have hown : (s.setVm s.vm).vm.findClass "com/example/estim365/estim365/cli/Option" = some m.cls := hown
  have hZ : Z.Warmed39 (s.setVm s.vm).vm := hZ
  have hml : c.maxLocals = 1 := hml
  have hret : meth.sig.returnType = some (.object "java/lang/String") := hret
  refine o_entry (o_ef86 m a1) ?_
  have N0 := Fr.nil h0.size
  have wS : ∀ a ∈ Bundle.stringAtoms, a.before a0 Z = true := o_atoms (hw _ (List.mem_of_getElem? (i := 3) rfl)) (hw _ (List.mem_of_getElem? (i := 2) rfl)) (hw _ (List.mem_of_getElem? (i := 19) rfl)) (hw _ (List.mem_of_getElem? (i := 29) rfl)) (hw _ (List.mem_of_getElem? (i := 27) rfl)) (hw _ (List.mem_of_getElem? (i := 148) rfl)) (hw _ (List.mem_of_getElem? (i := 149) rfl))
  refine o_aloadN X0 hx (hb hby d_prog_5_method_8_code_0) (v := (.ref a1)) rfl rfl (n := 1) rfl ?_
  refine o_callV X0 hx hZ hown (hw _ (List.mem_of_getElem? (i := 81) rfl)) (hw _ (List.mem_of_getElem? (i := 72) rfl)) (hw _ (List.mem_of_getElem? (i := 74) rfl)) (hw _ (List.mem_of_getElem? (i := 73) rfl)) (hw _ (List.mem_of_getElem? (i := 53) rfl)) (hw _ (List.mem_of_getElem? (i := 75) rfl)) (by decide) e0 pE_a1 (argsL := []) (rest := []) (c_isf0 l Z a0 hw a1 v1 h0 pE_a1 pF_a1_value) 0 (by decide) (by decide) (by decide) (by decide) (by rw [hml]; rfl) (lenOf o_pd20 rfl) rfl (Nat.le_of_eq rfl) (hb hby d_prog_5_method_8_code_1) (n := 4) rfl ?_
  intro v1 T1 L1 X1 q1
  obtain ⟨rfl, e1, rfl⟩ := q1
  have N2 := Fr.app N0 (Fr.nil h0.size)
  show Goes _ _ p e below s _ _ _ (T1.setTop (mkF m 4 #[.val (.ref a1)] [(.int (0 : Int32))]))
  refine o_ifY X1 hx (hb hby d_prog_5_method_8_code_4) (XT.i0_eq_t (by decide)) (by decide) (n := 14) (by decide) ?_
  refine o_new X1 hx hZ hown (hw _ (List.mem_of_getElem? (i := 82) rfl)) (hw _ (List.mem_of_getElem? (i := 83) rfl)) (hw _ (List.mem_of_getElem? (i := 84) rfl)) e1 (hb hby d_prog_5_method_8_code_14) (by decide) (by decide) (n := 17) rfl ?_
  intro T3 h3 b3 X3 e3 g3 E3 A3 D3
  have ne4 : a1 ≠ b3 := Nat.ne_of_lt (Nat.lt_of_lt_of_eq pE_a1.lt g3.symm)
  have ne5 : m1 ≠ b3 := Nat.ne_of_lt (Nat.lt_of_lt_of_eq pE_m1.lt g3.symm)
  have ne6 : mu ≠ b3 := Nat.ne_of_lt (Nat.lt_of_lt_of_eq pV_mu.lt g3.symm)
  have ne7 : v1 ≠ b3 := Nat.ne_of_lt (Nat.lt_of_lt_of_eq pE_v1.lt g3.symm)
  have ne8 : vu ≠ b3 := Nat.ne_of_lt (Nat.lt_of_lt_of_eq pV_vu.lt g3.symm)
  have gg3 : h0.size ≤ b3 := Nat.le_trans (Nat.le_refl h0.size) (Nat.le_of_eq g3.symm)
  have zz3 : h0.size ≤ h3.size := Nat.le_trans (Nat.le_refl h0.size) E3.1
  have sz3 : h0.size ≤ b3 := Nat.le_trans (Keep.refl h0 []).1 (Nat.le_of_eq g3.symm)
  have f9 := pE_a1.ext E3
  have f10 := pF_a1_name.ext E3
  have f11 := pF_a1_value.ext E3
  have f12 := pE_m1.ext E3
  have f13 := pF_m1_coder.ext E3
  have f14 := pF_m1_value.ext E3
  have f15 := pV_mu.ext E3
  have f16 := pE_v1.ext E3
  have f17 := pF_v1_coder.ext E3
  have f18 := pF_v1_value.ext E3
  have f19 := pV_vu.ext E3
  have f20 := pS_COMPACT_STRINGS.ext E3
  have K21 : Keep h0 h3 [] := (Keep.refl h0 []).ext E3
  have f22 : Fld Z h3 b3 "java/lang/AbstractStringBuilder" "value" "[B" .null := D3 (Or.inl (hw _ (List.mem_of_getElem? (i := 97) rfl))) (ty := (.array .byte)) (by decide)
  have f23 : Fld Z h3 b3 "java/lang/AbstractStringBuilder" "coder" "B" (.int (0 : Int32)) := D3 (Or.inl (hw _ (List.mem_of_getElem? (i := 99) rfl))) (ty := .byte) (by decide)
  have f24 : Fld Z h3 b3 "java/lang/AbstractStringBuilder" "count" "I" (.int (0 : Int32)) := D3 (Or.inl (hw _ (List.mem_of_getElem? (i := 121) rfl))) (ty := .int) (by decide)
  refine o_dup X3 hx (hb hby d_prog_5_method_8_code_17) rfl (n := 18) rfl ?_
  refine o_callN X3 hx hZ rfl hown (hw _ (List.mem_of_getElem? (i := 85) rfl)) (hw _ (List.mem_of_getElem? (i := 86) rfl)) (hw _ (List.mem_of_getElem? (i := 84) rfl)) (hw _ (List.mem_of_getElem? (i := 87) rfl)) (by decide) e3 (a := b3) (argsL := []) (rest := [(.ref b3)]) (c_sbi l Z a0 hw b3 cs h3 h0.size zz3 gg3 A3 f22 f23 f24 f20 hcs) 1 (by decide) (by decide) (by decide) (by decide) (by rw [hml]; rfl) (lenOf o_pd7 rfl) rfl (Nat.le_of_eq rfl) (hb hby d_prog_5_method_8_code_18) (n := 21) rfl ?_
  intro v25 T25 L25 X25 q25
  obtain ⟨n1_25, kn_25, rfl, Nq25, K25, sq25_n1, o25_0, o25_1, o25_2, o25_3, o25_4⟩ := q25
  have N26 := Fr.app N2 Nq25
  have ne27 : a1 ≠ n1_25 := Nat.ne_of_lt (Nat.lt_of_lt_of_le f9.lt sq25_n1)
  have ne28 : m1 ≠ n1_25 := Nat.ne_of_lt (Nat.lt_of_lt_of_le f12.lt sq25_n1)
  have ne29 : mu ≠ n1_25 := Nat.ne_of_lt (Nat.lt_of_lt_of_le f15.lt sq25_n1)
  have ne30 : v1 ≠ n1_25 := Nat.ne_of_lt (Nat.lt_of_lt_of_le f16.lt sq25_n1)
  have ne31 : vu ≠ n1_25 := Nat.ne_of_lt (Nat.lt_of_lt_of_le f19.lt sq25_n1)
  have ne32 : b3 ≠ n1_25 := Nat.ne_of_lt (Nat.lt_of_lt_of_le A3.lt sq25_n1)
  have gg25_n1 : h0.size ≤ n1_25 := Nat.le_trans zz3 sq25_n1
  have sz25_n1 : h0.size ≤ n1_25 := Nat.le_trans K21.1 sq25_n1
  have f33 := f9.keep K25
  have f34 := f10.keep K25 (ninS ne4 nin0)
  have f35 := f11.keep K25 (ninS ne4 nin0)
  have f36 := f12.keep K25
  have f37 := f13.keep K25 (ninS ne5 nin0)
  have f38 := f14.keep K25 (ninS ne5 nin0)
  have f39 := f15.keep K25 (ninS ne6 nin0)
  have f40 := f16.keep K25
  have f41 := f17.keep K25 (ninS ne7 nin0)
  have f42 := f18.keep K25 (ninS ne7 nin0)
  have f43 := f19.keep K25 (ninS ne8 nin0)
  have f44 := o_sta_keep f20 K25 (allS (P := fun a => ∀ cl : Cell, h3[a]? = some cl → cl.vm.isStatics = false) (o_exa_ns A3) all0)
  have f45 := A3.keep K25
  have zz25 : h0.size ≤ T25.heap.size := Nat.le_trans zz3 K25.1
  have K49 : Keep h0 T25.heap [] := K21.trans K25 (allS (P := fun x => x ∈ [] ∨ h0.size ≤ x) (Or.inr sz3) all0)
  show Goes _ _ p e below s _ _ _ (T25.setTop (mkF m 21 #[.val (.ref a1)] [(.ref b3)]))
  refine o_aloadN X25 hx (hb hby d_prog_5_method_8_code_21) (v := (.ref a1)) rfl rfl (n := 22) rfl ?_
  refine o_getfield X25 hx hZ hown (host := "") (Or.inl (hw _ (List.mem_of_getElem? (i := 63) rfl))) Via.refl (rfl : T25.heap = T25.heap) f34 (hb hby d_prog_5_method_8_code_22) (n := 25) rfl ?_
  intro T50 X50 e50
  refine o_callV X50 hx hZ hown (hw _ (List.mem_of_getElem? (i := 100) rfl)) (hw _ (List.mem_of_getElem? (i := 101) rfl)) (hw _ (List.mem_of_getElem? (i := 103) rfl)) (hw _ (List.mem_of_getElem? (i := 102) rfl)) (hw _ (List.mem_of_getElem? (i := 84) rfl)) (hw _ (List.mem_of_getElem? (i := 104) rfl)) (by decide) e50 o25_0 (argsL := [(.ref m1)]) (rest := []) (c_sp20 l Z a0 hw b3 m1 mu ku n1_25 kn_25 cs ze0 ze1 T25.heap h0.size zz25 gg3 gg25_n1 o25_0 o25_1 o25_2 o25_3 f36 f37 f38 f39 o25_4 ne29 ne28 ne32 (Ne.symm ne5) (Ne.symm ne6) f44 hcs) 0 (by decide) (by decide) (by decide) (by decide) (by rw [hml]; rfl) (lenOf o_pd24 rfl) rfl (Nat.le_of_eq rfl) (hb hby d_prog_5_method_8_code_25) (n := 28) rfl ?_
  intro v51 T51 L51 X51 q51
  obtain ⟨rfl, Nq51, K51, o51_0, o51_1, o51_2, o51_3, o51_4⟩ := q51
  have N52 := Fr.app N26 Nq51
  have f53 := f33.keep K51
  have f54 := f34.keep K51 (ninS ne4 (ninS ne27 nin0))
  have f55 := f35.keep K51 (ninS ne4 (ninS ne27 nin0))
  have f56 := f36.keep K51
  have f57 := f37.keep K51 (ninS ne5 (ninS ne28 nin0))
  have f58 := f38.keep K51 (ninS ne5 (ninS ne28 nin0))
  have f59 := f39.keep K51 (ninS ne6 (ninS ne29 nin0))
  have f60 := f40.keep K51
  have f61 := f41.keep K51 (ninS ne7 (ninS ne30 nin0))
  have f62 := f42.keep K51 (ninS ne7 (ninS ne30 nin0))
  have f63 := f43.keep K51 (ninS ne8 (ninS ne31 nin0))
  have f64 := o_sta_keep f44 K51 (allS (P := fun a => ∀ cl : Cell, T25.heap[a]? = some cl → cl.vm.isStatics = false) (o_exa_ns o25_0) (allS (P := fun a => ∀ cl : Cell, T25.heap[a]? = some cl → cl.vm.isStatics = false) (o_arv_ns o25_4) all0))
  have f65 := o25_0.keep K51
  have zz51 : h0.size ≤ T51.heap.size := Nat.le_trans zz25 K51.1
  have K70 : Keep h0 T51.heap [] := K49.trans K51 (allS (P := fun x => x ∈ [] ∨ h0.size ≤ x) (Or.inr sz3) (allS (P := fun x => x ∈ [] ∨ h0.size ≤ x) (Or.inr sz25_n1) all0))
  show Goes _ _ p e below s _ _ _ (T51.setTop (mkF m 28 #[.val (.ref a1)] [(.ref b3)]))
  refine o_ldcS X51 hx hZ hown (hw _ (List.mem_of_getElem? (i := 147) rfl)) wS (rfl : T51.heap = T51.heap) S0 (Nat.le_trans (Nat.le_trans (Nat.le_trans (Nat.zero_le _) E3.1) K25.1) K51.1) (by rw [es0]; exact N52) (fun b cl q => by rw [es0]; exact hkeep b cl q) IB0 (by decide) (hheld _ (List.mem_of_getElem? (i := 0) rfl)) hcw (vs := [(.int (32 : Int32))]) (z := (1 : Int32)) ⟨by decide, rfl⟩ (by decide) (by decide) (hb hby d_prog_5_method_8_code_28) (nn := 4) (by decide) (by decide) (by decide) (by decide) (n := 30) rfl ?_
  intro T71 h71 la71 lb71 lk71 k171 X71 e71 E71 S71 hk71 hZ hown A71 FC71 FV71 V71 IB71 LI71 DD71
  obtain ⟨nx71_b3, ny71_b3⟩ := o_nel DD71 (by rw [es0]; exact sz3) o51_0.lt
  obtain ⟨nx71_n1_25, ny71_n1_25⟩ := o_nel DD71 (by rw [es0]; exact sz25_n1) o51_4.lt
  have f72 := f53.ext E71
  have f73 := f54.ext E71
  have f74 := f55.ext E71
  have f75 := f56.ext E71
  have f76 := f57.ext E71
  have f77 := f58.ext E71
  have f78 := f59.ext E71
  have f79 := f60.ext E71
  have f80 := f61.ext E71
  have f81 := f62.ext E71
  have f82 := f63.ext E71
  have f83 := f64.ext E71
  have f84 := o51_0.ext E71
  have f85 := o51_1.ext E71
  have f86 := o51_2.ext E71
  have f87 := o51_3.ext E71
  have f88 := o51_4.ext E71
  have K89 : Keep h0 h71 [] := K70.ext E71
  have zz71 : h0.size ≤ h71.size := Nat.le_trans zz51 E71.1
  refine o_callV X71 hx hZ hown (hw _ (List.mem_of_getElem? (i := 100) rfl)) (hw _ (List.mem_of_getElem? (i := 101) rfl)) (hw _ (List.mem_of_getElem? (i := 103) rfl)) (hw _ (List.mem_of_getElem? (i := 102) rfl)) (hw _ (List.mem_of_getElem? (i := 84) rfl)) (hw _ (List.mem_of_getElem? (i := 104) rfl)) (by decide) e71 f84 (argsL := [(.ref la71)]) (rest := []) (c_sp12 l Z a0 hw b3 la71 lb71 lk71 n1_25 kn_25 cs ze0 ze1 (32 : Int32) h71 h0.size zz71 gg3 gg25_n1 f84 f85 f86 f87 A71 FC71 FV71 V71 f88 (Ne.symm ny71_n1_25) (Ne.symm nx71_n1_25) ne32 nx71_b3 ny71_b3 f83 hcs) 0 (by decide) (by decide) (by decide) (by decide) (by rw [hml]; rfl) (lenOf o_pd24 rfl) rfl (Nat.le_of_eq rfl) (hb hby d_prog_5_method_8_code_30) (n := 33) rfl ?_
  intro v90 T90 L90 X90 q90
  obtain ⟨rfl, Nq90, K90, o90_0, o90_1, o90_2, o90_3, o90_4⟩ := q90
  have N91 := Fr.app N52 Nq90
  have f92 := f72.keep K90
  have f93 := f73.keep K90 (ninS ne4 (ninS ne27 nin0))
  have f94 := f74.keep K90 (ninS ne4 (ninS ne27 nin0))
  have f95 := f75.keep K90
  have f96 := f76.keep K90 (ninS ne5 (ninS ne28 nin0))
  have f97 := f77.keep K90 (ninS ne5 (ninS ne28 nin0))
  have f98 := f78.keep K90 (ninS ne6 (ninS ne29 nin0))
  have f99 := f79.keep K90
  have f100 := f80.keep K90 (ninS ne7 (ninS ne30 nin0))
  have f101 := f81.keep K90 (ninS ne7 (ninS ne30 nin0))
  have f102 := f82.keep K90 (ninS ne8 (ninS ne31 nin0))
  have f103 := o_sta_keep f83 K90 (allS (P := fun a => ∀ cl : Cell, h71[a]? = some cl → cl.vm.isStatics = false) (o_exa_ns f84) (allS (P := fun a => ∀ cl : Cell, h71[a]? = some cl → cl.vm.isStatics = false) (o_arv_ns f88) all0))
  have f104 := f84.keep K90
  have f109 := A71.keep K90
  have f110 := FC71.keep K90 (ninS (Ne.symm nx71_b3) (ninS (Ne.symm nx71_n1_25) nin0))
  have f111 := FV71.keep K90 (ninS (Ne.symm nx71_b3) (ninS (Ne.symm nx71_n1_25) nin0))
  have f112 := V71.keep K90 (ninS (Ne.symm ny71_b3) (ninS (Ne.symm ny71_n1_25) nin0))
  have zz90 : h0.size ≤ T90.heap.size := Nat.le_trans zz71 K90.1
  have K113 : Keep h0 T90.heap [] := K89.trans K90 (allS (P := fun x => x ∈ [] ∨ h0.size ≤ x) (Or.inr sz3) (allS (P := fun x => x ∈ [] ∨ h0.size ≤ x) (Or.inr sz25_n1) all0))
  show Goes _ _ p e below s _ _ _ (T90.setTop (mkF m 33 #[.val (.ref a1)] [(.ref b3)]))
  refine o_aloadN X90 hx (hb hby d_prog_5_method_8_code_33) (v := (.ref a1)) rfl rfl (n := 34) rfl ?_
  refine o_getfield X90 hx hZ hown (host := "") (Or.inl (hw _ (List.mem_of_getElem? (i := 65) rfl))) Via.refl (rfl : T90.heap = T90.heap) f94 (hb hby d_prog_5_method_8_code_34) (n := 37) rfl ?_
  intro T114 X114 e114
  refine o_callV X114 hx hZ hown (hw _ (List.mem_of_getElem? (i := 100) rfl)) (hw _ (List.mem_of_getElem? (i := 101) rfl)) (hw _ (List.mem_of_getElem? (i := 103) rfl)) (hw _ (List.mem_of_getElem? (i := 102) rfl)) (hw _ (List.mem_of_getElem? (i := 84) rfl)) (hw _ (List.mem_of_getElem? (i := 104) rfl)) (by decide) e114 o90_0 (argsL := [(.ref v1)]) (rest := []) (c_sp13 l Z a0 hw b3 v1 vu kv n1_25 kn_25 cs ze0 ze1 (32 : Int32) zf0 T90.heap h0.size zz90 gg3 gg25_n1 o90_0 o90_1 o90_2 o90_3 f99 f100 f101 f102 o90_4 ne31 ne30 ne32 (Ne.symm ne7) (Ne.symm ne8) f103 hcs) 0 (by decide) (by decide) (by decide) (by decide) (by rw [hml]; rfl) (lenOf o_pd24 rfl) rfl (Nat.le_of_eq rfl) (hb hby d_prog_5_method_8_code_37) (n := 40) rfl ?_
  intro v115 T115 L115 X115 q115
  obtain ⟨rfl, Nq115, K115, o115_0, o115_1, o115_2, o115_3, o115_4⟩ := q115
  have N116 := Fr.app N91 Nq115
  have f117 := f92.keep K115
  have f118 := f93.keep K115 (ninS ne4 (ninS ne27 nin0))
  have f119 := f94.keep K115 (ninS ne4 (ninS ne27 nin0))
  have f120 := f95.keep K115
  have f121 := f96.keep K115 (ninS ne5 (ninS ne28 nin0))
  have f122 := f97.keep K115 (ninS ne5 (ninS ne28 nin0))
  have f123 := f98.keep K115 (ninS ne6 (ninS ne29 nin0))
  have f124 := f99.keep K115
  have f125 := f100.keep K115 (ninS ne7 (ninS ne30 nin0))
  have f126 := f101.keep K115 (ninS ne7 (ninS ne30 nin0))
  have f127 := f102.keep K115 (ninS ne8 (ninS ne31 nin0))
  have f128 := o_sta_keep f103 K115 (allS (P := fun a => ∀ cl : Cell, T90.heap[a]? = some cl → cl.vm.isStatics = false) (o_exa_ns o90_0) (allS (P := fun a => ∀ cl : Cell, T90.heap[a]? = some cl → cl.vm.isStatics = false) (o_arv_ns o90_4) all0))
  have f129 := o90_0.keep K115
  have f130 := f109.keep K115
  have f131 := f110.keep K115 (ninS (Ne.symm nx71_b3) (ninS (Ne.symm nx71_n1_25) nin0))
  have f132 := f111.keep K115 (ninS (Ne.symm nx71_b3) (ninS (Ne.symm nx71_n1_25) nin0))
  have f133 := f112.keep K115 (ninS (Ne.symm ny71_b3) (ninS (Ne.symm ny71_n1_25) nin0))
  have zz115 : h0.size ≤ T115.heap.size := Nat.le_trans zz90 K115.1
  have K138 : Keep h0 T115.heap [] := K113.trans K115 (allS (P := fun x => x ∈ [] ∨ h0.size ≤ x) (Or.inr sz3) (allS (P := fun x => x ∈ [] ∨ h0.size ≤ x) (Or.inr sz25_n1) all0))
  show Goes _ _ p e below s _ _ _ (T115.setTop (mkF m 40 #[.val (.ref a1)] [(.ref b3)]))
  refine o_callV X115 hx hZ hown (hw _ (List.mem_of_getElem? (i := 150) rfl)) (hw _ (List.mem_of_getElem? (i := 151) rfl)) (hw _ (List.mem_of_getElem? (i := 153) rfl)) (hw _ (List.mem_of_getElem? (i := 152) rfl)) (hw _ (List.mem_of_getElem? (i := 84) rfl)) (hw _ (List.mem_of_getElem? (i := 154) rfl)) (by decide) (rfl : T115.heap = T115.heap) o115_0 (argsL := []) (rest := []) (c_ts3_4 l Z a0 hw b3 n1_25 kn_25 cs ze0 ze1 (32 : Int32) zf0 T115.heap h0.size zz115 o115_0 o115_1 o115_2 o115_3 o115_4 f128 hcs) 0 (by decide) (by decide) (by decide) (by decide) (by rw [hml]; rfl) (lenOf o_pd25 rfl) rfl (Nat.le_of_eq rfl) (hb hby d_prog_5_method_8_code_40) (n := 43) rfl ?_
  intro v139 T139 L139 X139 q139
  obtain ⟨s1_139, n1_139, kn_139, rfl, Nq139, K139, sq139_s1, sq139_n1, o139_0, o139_1, o139_2, o139_3⟩ := q139
  have N140 := Fr.app N116 Nq139
  have ne141 : a1 ≠ s1_139 := Nat.ne_of_lt (Nat.lt_of_lt_of_le f117.lt sq139_s1)
  have ne142 : m1 ≠ s1_139 := Nat.ne_of_lt (Nat.lt_of_lt_of_le f120.lt sq139_s1)
  have ne143 : mu ≠ s1_139 := Nat.ne_of_lt (Nat.lt_of_lt_of_le f123.lt sq139_s1)
  have ne144 : v1 ≠ s1_139 := Nat.ne_of_lt (Nat.lt_of_lt_of_le f124.lt sq139_s1)
  have ne145 : vu ≠ s1_139 := Nat.ne_of_lt (Nat.lt_of_lt_of_le f127.lt sq139_s1)
  have ne146 : b3 ≠ s1_139 := Nat.ne_of_lt (Nat.lt_of_lt_of_le o115_0.lt sq139_s1)
  have ne147 : la71 ≠ s1_139 := Nat.ne_of_lt (Nat.lt_of_lt_of_le f130.lt sq139_s1)
  have ne148 : lb71 ≠ s1_139 := Nat.ne_of_lt (Nat.lt_of_lt_of_le f133.lt sq139_s1)
  have ne149 : n1_25 ≠ s1_139 := Nat.ne_of_lt (Nat.lt_of_lt_of_le o115_4.lt sq139_s1)
  have gg139_s1 : h0.size ≤ s1_139 := Nat.le_trans zz115 sq139_s1
  have sz139_s1 : h0.size ≤ s1_139 := Nat.le_trans K138.1 sq139_s1
  have ne150 : a1 ≠ n1_139 := Nat.ne_of_lt (Nat.lt_of_lt_of_le f117.lt sq139_n1)
  have ne151 : m1 ≠ n1_139 := Nat.ne_of_lt (Nat.lt_of_lt_of_le f120.lt sq139_n1)
  have ne152 : mu ≠ n1_139 := Nat.ne_of_lt (Nat.lt_of_lt_of_le f123.lt sq139_n1)
  have ne153 : v1 ≠ n1_139 := Nat.ne_of_lt (Nat.lt_of_lt_of_le f124.lt sq139_n1)
  have ne154 : vu ≠ n1_139 := Nat.ne_of_lt (Nat.lt_of_lt_of_le f127.lt sq139_n1)
  have ne155 : b3 ≠ n1_139 := Nat.ne_of_lt (Nat.lt_of_lt_of_le o115_0.lt sq139_n1)
  have ne156 : la71 ≠ n1_139 := Nat.ne_of_lt (Nat.lt_of_lt_of_le f130.lt sq139_n1)
  have ne157 : lb71 ≠ n1_139 := Nat.ne_of_lt (Nat.lt_of_lt_of_le f133.lt sq139_n1)
  have ne158 : n1_25 ≠ n1_139 := Nat.ne_of_lt (Nat.lt_of_lt_of_le o115_4.lt sq139_n1)
  have gg139_n1 : h0.size ≤ n1_139 := Nat.le_trans zz115 sq139_n1
  have sz139_n1 : h0.size ≤ n1_139 := Nat.le_trans K138.1 sq139_n1
  have f159 := f117.keep K139
  have f160 := f118.keep K139 nin0
  have f161 := f119.keep K139 nin0
  have f162 := f120.keep K139
  have f163 := f121.keep K139 nin0
  have f164 := f122.keep K139 nin0
  have f165 := f123.keep K139 nin0
  have f166 := f124.keep K139
  have f167 := f125.keep K139 nin0
  have f168 := f126.keep K139 nin0
  have f169 := f127.keep K139 nin0
  have f170 := o_sta_keep f128 K139 all0
  have f171 := o115_0.keep K139
  have f172 := f130.keep K139
  have f173 := f131.keep K139 nin0
  have f174 := f132.keep K139 nin0
  have f175 := f133.keep K139 nin0
  have f176 := o115_1.keep K139 nin0
  have f177 := o115_2.keep K139 nin0
  have f178 := o115_3.keep K139 nin0
  have f179 := o115_4.keep K139 nin0
  have zz139 : h0.size ≤ T139.heap.size := Nat.le_trans zz115 K139.1
  have K180 : Keep h0 T139.heap [] := K138.trans K139 all0
  show Goes _ _ p e below s _ _ _ (T139.setTop (mkF m 43 #[.val (.ref a1)] [(.ref s1_139)]))
  exact o_areturnW X139 hx S71 (Nat.le_trans (Nat.le_trans (Nat.le_trans hk71 K90.1) K115.1) K139.1) hret hlk rfl rfl (hb hby d_prog_5_method_8_code_43) (by decide) (by decide) (rfl : T139.heap = T139.heap) (fun vm hW => o_ibW (s := s.setVm _) IB71 hW) ⟨s1_139, n1_139, kn_139, rfl, N140, K180, sz139_s1, sz139_n1, o139_0, o139_1, o139_2, o139_3⟩
theorem o_ef87 (m : MethodId) (a1 : Addr) : entryFrame m #[(.ref a1)] 1 = mkF m 0 #[.val (.ref a1)] [] := by first | (simp [entryFrame, mkF, argsToLocals, Value.category]; done) | rfl
set_option maxRecDepth 65536 in
set_option maxHeartbeats 40000000 in
theorem c_gvn_2 (l : Launch) (Z : State) (a0 : Array Value) (hw : ∀ d ∈ tables_1, d.before a0 Z = true) (a1 : Addr) (m1 : Addr) (mu : Addr) (ku : ClassId) (v1 : Addr) (vu : Addr) (kv : ClassId) (cs : Int32) (ze0 : Int32) (ze1 : Int32) (zf0 : Int32) (zf1 : Int32) (h0 : Heap) (pE_a1 : Exa Z h0 a1 "com/example/estim365/estim365/cli/Option") (pF_a1_name : Fld Z h0 a1 "com/example/estim365/estim365/cli/Option" "name" "Ljava/lang/String;" (.ref m1)) (pF_a1_value : Fld Z h0 a1 "com/example/estim365/estim365/cli/Option" "value" "Ljava/lang/String;" (.ref v1)) (pE_m1 : Exa Z h0 m1 "java/lang/String") (pF_m1_coder : Fld Z h0 m1 "java/lang/String" "coder" "B" (.int (0 : Int32))) (pF_m1_value : Fld Z h0 m1 "java/lang/String" "value" "[B" (.ref mu)) (pV_mu : Arv Z h0 mu ku .byte (2 : Int32) [(.int ze0), (.int ze1)] (.int (0 : Int32))) (pE_v1 : Exa Z h0 v1 "java/lang/String") (pF_v1_coder : Fld Z h0 v1 "java/lang/String" "coder" "B" (.int (0 : Int32))) (pF_v1_value : Fld Z h0 v1 "java/lang/String" "value" "[B" (.ref vu)) (pV_vu : Arv Z h0 vu kv .byte (2 : Int32) [(.int zf0), (.int zf1)] (.int (0 : Int32))) (pS_COMPACT_STRINGS : Sta Z h0 "java/lang/String" "COMPACT_STRINGS" "Z" (.int cs)) (hcs : ¬ cs = (0 : Int32)) (hkeep : ∀ (b : Addr) (cl : Cell), Z.heap[b]? = some cl → h0[b]? = some cl) (hheld : ∀ q ∈ [("com/example/estim365/estim365/cli/Option", 51), ("java/lang/String", 7)], Jvm.Lit.constHeld Z q.1 q.2) (hcw : Jvm.Lit.compactW.before a0 Z = true) :
    DoesW l Z (⟨"com/example/estim365/estim365/cli/Option", "given", "()Ljava/lang/String;"⟩ : MethodName) prog_5_method_8_code 1 (some (.object "java/lang/String")) [] ({ frames := 6, cells := 6, slots := 37, locals := 91 } : Room) #[(.ref a1)] h0 (fun vm => IB Z vm []) (fun v h L => ∃ (s1 n1 : Addr) (kn : ClassId), v = some (.ref s1) ∧ Fr h0.size L ∧ Keep h0 h [] ∧ h0.size ≤ s1 ∧ h0.size ≤ n1 ∧ Exa Z h s1 "java/lang/String" ∧ Fld Z h s1 "java/lang/String" "coder" "B" (.int (0 : Int32)) ∧ Fld Z h s1 "java/lang/String" "value" "[B" (.ref n1) ∧ Arv Z h n1 kn .byte (5 : Int32) [(.int ze0), (.int ze1), (.int (32 : Int32)), (.int zf0), (.int zf1)] (.int (0 : Int32))) (fun vm => IB Z vm (" " :: [])) := by
  refine DoesW.of (plainFor_of_name o_pn5) ?_
  intro p e s m below meth c T0 hx hby hml hown hnm hret hlk hZ X0 e0 es0 IB0 S0
  have hown : (s.setVm s.vm).vm.findClass "com/example/estim365/estim365/cli/Option" = some m.cls := hown
  have hZ : Z.Warmed39 (s.setVm s.vm).vm := hZ
  have hml : c.maxLocals = 1 := hml
  have hret : meth.sig.returnType = some (.object "java/lang/String") := hret
  refine o_entry (o_ef87 m a1) ?_
  have N0 := Fr.nil h0.size
  have wS : ∀ a ∈ Bundle.stringAtoms, a.before a0 Z = true := o_atoms (hw _ (List.mem_of_getElem? (i := 3) rfl)) (hw _ (List.mem_of_getElem? (i := 2) rfl)) (hw _ (List.mem_of_getElem? (i := 19) rfl)) (hw _ (List.mem_of_getElem? (i := 29) rfl)) (hw _ (List.mem_of_getElem? (i := 27) rfl)) (hw _ (List.mem_of_getElem? (i := 148) rfl)) (hw _ (List.mem_of_getElem? (i := 149) rfl))
  refine o_aloadN X0 hx (hb hby d_prog_5_method_8_code_0) (v := (.ref a1)) rfl rfl (n := 1) rfl ?_
  refine o_callV X0 hx hZ hown (hw _ (List.mem_of_getElem? (i := 81) rfl)) (hw _ (List.mem_of_getElem? (i := 72) rfl)) (hw _ (List.mem_of_getElem? (i := 74) rfl)) (hw _ (List.mem_of_getElem? (i := 73) rfl)) (hw _ (List.mem_of_getElem? (i := 53) rfl)) (hw _ (List.mem_of_getElem? (i := 75) rfl)) (by decide) e0 pE_a1 (argsL := []) (rest := []) (c_isf0 l Z a0 hw a1 v1 h0 pE_a1 pF_a1_value) 0 (by decide) (by decide) (by decide) (by decide) (by rw [hml]; rfl) (lenOf o_pd20 rfl) rfl (Nat.le_of_eq rfl) (hb hby d_prog_5_method_8_code_1) (n := 4) rfl ?_
  intro v1 T1 L1 X1 q1
  obtain ⟨rfl, e1, rfl⟩ := q1
  have N2 := Fr.app N0 (Fr.nil h0.size)
  show Goes _ _ p e below s _ _ _ (T1.setTop (mkF m 4 #[.val (.ref a1)] [(.int (0 : Int32))]))
  refine o_ifY X1 hx (hb hby d_prog_5_method_8_code_4) (XT.i0_eq_t (by decide)) (by decide) (n := 14) (by decide) ?_
  refine o_new X1 hx hZ hown (hw _ (List.mem_of_getElem? (i := 82) rfl)) (hw _ (List.mem_of_getElem? (i := 83) rfl)) (hw _ (List.mem_of_getElem? (i := 84) rfl)) e1 (hb hby d_prog_5_method_8_code_14) (by decide) (by decide) (n := 17) rfl ?_
  intro T3 h3 b3 X3 e3 g3 E3 A3 D3
  have ne4 : a1 ≠ b3 := Nat.ne_of_lt (Nat.lt_of_lt_of_eq pE_a1.lt g3.symm)
  have ne5 : m1 ≠ b3 := Nat.ne_of_lt (Nat.lt_of_lt_of_eq pE_m1.lt g3.symm)
  have ne6 : mu ≠ b3 := Nat.ne_of_lt (Nat.lt_of_lt_of_eq pV_mu.lt g3.symm)
  have ne7 : v1 ≠ b3 := Nat.ne_of_lt (Nat.lt_of_lt_of_eq pE_v1.lt g3.symm)
  have ne8 : vu ≠ b3 := Nat.ne_of_lt (Nat.lt_of_lt_of_eq pV_vu.lt g3.symm)
  have gg3 : h0.size ≤ b3 := Nat.le_trans (Nat.le_refl h0.size) (Nat.le_of_eq g3.symm)
  have zz3 : h0.size ≤ h3.size := Nat.le_trans (Nat.le_refl h0.size) E3.1
  have sz3 : h0.size ≤ b3 := Nat.le_trans (Keep.refl h0 []).1 (Nat.le_of_eq g3.symm)
  have f9 := pE_a1.ext E3
  have f10 := pF_a1_name.ext E3
  have f11 := pF_a1_value.ext E3
  have f12 := pE_m1.ext E3
  have f13 := pF_m1_coder.ext E3
  have f14 := pF_m1_value.ext E3
  have f15 := pV_mu.ext E3
  have f16 := pE_v1.ext E3
  have f17 := pF_v1_coder.ext E3
  have f18 := pF_v1_value.ext E3
  have f19 := pV_vu.ext E3
  have f20 := pS_COMPACT_STRINGS.ext E3
  have K21 : Keep h0 h3 [] := (Keep.refl h0 []).ext E3
  have f22 : Fld Z h3 b3 "java/lang/AbstractStringBuilder" "value" "[B" .null := D3 (Or.inl (hw _ (List.mem_of_getElem? (i := 97) rfl))) (ty := (.array .byte)) (by decide)
  have f23 : Fld Z h3 b3 "java/lang/AbstractStringBuilder" "coder" "B" (.int (0 : Int32)) := D3 (Or.inl (hw _ (List.mem_of_getElem? (i := 99) rfl))) (ty := .byte) (by decide)
  have f24 : Fld Z h3 b3 "java/lang/AbstractStringBuilder" "count" "I" (.int (0 : Int32)) := D3 (Or.inl (hw _ (List.mem_of_getElem? (i := 121) rfl))) (ty := .int) (by decide)
  refine o_dup X3 hx (hb hby d_prog_5_method_8_code_17) rfl (n := 18) rfl ?_
  refine o_callN X3 hx hZ rfl hown (hw _ (List.mem_of_getElem? (i := 85) rfl)) (hw _ (List.mem_of_getElem? (i := 86) rfl)) (hw _ (List.mem_of_getElem? (i := 84) rfl)) (hw _ (List.mem_of_getElem? (i := 87) rfl)) (by decide) e3 (a := b3) (argsL := []) (rest := [(.ref b3)]) (c_sbi l Z a0 hw b3 cs h3 h0.size zz3 gg3 A3 f22 f23 f24 f20 hcs) 1 (by decide) (by decide) (by decide) (by decide) (by rw [hml]; rfl) (lenOf o_pd7 rfl) rfl (Nat.le_of_eq rfl) (hb hby d_prog_5_method_8_code_18) (n := 21) rfl ?_
  intro v25 T25 L25 X25 q25
  obtain ⟨n1_25, kn_25, rfl, Nq25, K25, sq25_n1, o25_0, o25_1, o25_2, o25_3, o25_4⟩ := q25
  have N26 := Fr.app N2 Nq25
  have ne27 : a1 ≠ n1_25 := Nat.ne_of_lt (Nat.lt_of_lt_of_le f9.lt sq25_n1)
  have ne28 : m1 ≠ n1_25 := Nat.ne_of_lt (Nat.lt_of_lt_of_le f12.lt sq25_n1)
  have ne29 : mu ≠ n1_25 := Nat.ne_of_lt (Nat.lt_of_lt_of_le f15.lt sq25_n1)
  have ne30 : v1 ≠ n1_25 := Nat.ne_of_lt (Nat.lt_of_lt_of_le f16.lt sq25_n1)
  have ne31 : vu ≠ n1_25 := Nat.ne_of_lt (Nat.lt_of_lt_of_le f19.lt sq25_n1)
  have ne32 : b3 ≠ n1_25 := Nat.ne_of_lt (Nat.lt_of_lt_of_le A3.lt sq25_n1)
  have gg25_n1 : h0.size ≤ n1_25 := Nat.le_trans zz3 sq25_n1
  have sz25_n1 : h0.size ≤ n1_25 := Nat.le_trans K21.1 sq25_n1
  have f33 := f9.keep K25
  have f34 := f10.keep K25 (ninS ne4 nin0)
  have f35 := f11.keep K25 (ninS ne4 nin0)
  have f36 := f12.keep K25
  have f37 := f13.keep K25 (ninS ne5 nin0)
  have f38 := f14.keep K25 (ninS ne5 nin0)
  have f39 := f15.keep K25 (ninS ne6 nin0)
  have f40 := f16.keep K25
  have f41 := f17.keep K25 (ninS ne7 nin0)
  have f42 := f18.keep K25 (ninS ne7 nin0)
  have f43 := f19.keep K25 (ninS ne8 nin0)
  have f44 := o_sta_keep f20 K25 (allS (P := fun a => ∀ cl : Cell, h3[a]? = some cl → cl.vm.isStatics = false) (o_exa_ns A3) all0)
  have f45 := A3.keep K25
  have zz25 : h0.size ≤ T25.heap.size := Nat.le_trans zz3 K25.1
  have K49 : Keep h0 T25.heap [] := K21.trans K25 (allS (P := fun x => x ∈ [] ∨ h0.size ≤ x) (Or.inr sz3) all0)
  show Goes _ _ p e below s _ _ _ (T25.setTop (mkF m 21 #[.val (.ref a1)] [(.ref b3)]))
  refine o_aloadN X25 hx (hb hby d_prog_5_method_8_code_21) (v := (.ref a1)) rfl rfl (n := 22) rfl ?_
  refine o_getfield X25 hx hZ hown (host := "") (Or.inl (hw _ (List.mem_of_getElem? (i := 63) rfl))) Via.refl (rfl : T25.heap = T25.heap) f34 (hb hby d_prog_5_method_8_code_22) (n := 25) rfl ?_
  intro T50 X50 e50
  refine o_callV X50 hx hZ hown (hw _ (List.mem_of_getElem? (i := 100) rfl)) (hw _ (List.mem_of_getElem? (i := 101) rfl)) (hw _ (List.mem_of_getElem? (i := 103) rfl)) (hw _ (List.mem_of_getElem? (i := 102) rfl)) (hw _ (List.mem_of_getElem? (i := 84) rfl)) (hw _ (List.mem_of_getElem? (i := 104) rfl)) (by decide) e50 o25_0 (argsL := [(.ref m1)]) (rest := []) (c_sp20 l Z a0 hw b3 m1 mu ku n1_25 kn_25 cs ze0 ze1 T25.heap h0.size zz25 gg3 gg25_n1 o25_0 o25_1 o25_2 o25_3 f36 f37 f38 f39 o25_4 ne29 ne28 ne32 (Ne.symm ne5) (Ne.symm ne6) f44 hcs) 0 (by decide) (by decide) (by decide) (by decide) (by rw [hml]; rfl) (lenOf o_pd24 rfl) rfl (Nat.le_of_eq rfl) (hb hby d_prog_5_method_8_code_25) (n := 28) rfl ?_
  intro v51 T51 L51 X51 q51
  obtain ⟨rfl, Nq51, K51, o51_0, o51_1, o51_2, o51_3, o51_4⟩ := q51
  have N52 := Fr.app N26 Nq51
  have f53 := f33.keep K51
  have f54 := f34.keep K51 (ninS ne4 (ninS ne27 nin0))
  have f55 := f35.keep K51 (ninS ne4 (ninS ne27 nin0))
  have f56 := f36.keep K51
  have f57 := f37.keep K51 (ninS ne5 (ninS ne28 nin0))
  have f58 := f38.keep K51 (ninS ne5 (ninS ne28 nin0))
  have f59 := f39.keep K51 (ninS ne6 (ninS ne29 nin0))
  have f60 := f40.keep K51
  have f61 := f41.keep K51 (ninS ne7 (ninS ne30 nin0))
  have f62 := f42.keep K51 (ninS ne7 (ninS ne30 nin0))
  have f63 := f43.keep K51 (ninS ne8 (ninS ne31 nin0))
  have f64 := o_sta_keep f44 K51 (allS (P := fun a => ∀ cl : Cell, T25.heap[a]? = some cl → cl.vm.isStatics = false) (o_exa_ns o25_0) (allS (P := fun a => ∀ cl : Cell, T25.heap[a]? = some cl → cl.vm.isStatics = false) (o_arv_ns o25_4) all0))
  have f65 := o25_0.keep K51
  have zz51 : h0.size ≤ T51.heap.size := Nat.le_trans zz25 K51.1
  have K70 : Keep h0 T51.heap [] := K49.trans K51 (allS (P := fun x => x ∈ [] ∨ h0.size ≤ x) (Or.inr sz3) (allS (P := fun x => x ∈ [] ∨ h0.size ≤ x) (Or.inr sz25_n1) all0))
  show Goes _ _ p e below s _ _ _ (T51.setTop (mkF m 28 #[.val (.ref a1)] [(.ref b3)]))
  refine o_ldcS X51 hx hZ hown (hw _ (List.mem_of_getElem? (i := 147) rfl)) wS (rfl : T51.heap = T51.heap) S0 (Nat.le_trans (Nat.le_trans (Nat.le_trans (Nat.zero_le _) E3.1) K25.1) K51.1) (by rw [es0]; exact N52) (fun b cl q => by rw [es0]; exact hkeep b cl q) IB0 (by decide) (hheld _ (List.mem_of_getElem? (i := 0) rfl)) hcw (vs := [(.int (32 : Int32))]) (z := (1 : Int32)) ⟨by decide, rfl⟩ (by decide) (by decide) (hb hby d_prog_5_method_8_code_28) (nn := 4) (by decide) (by decide) (by decide) (by decide) (n := 30) rfl ?_
  intro T71 h71 la71 lb71 lk71 k171 X71 e71 E71 S71 hk71 hZ hown A71 FC71 FV71 V71 IB71 LI71 DD71
  obtain ⟨nx71_b3, ny71_b3⟩ := o_nel DD71 (by rw [es0]; exact sz3) o51_0.lt
  obtain ⟨nx71_n1_25, ny71_n1_25⟩ := o_nel DD71 (by rw [es0]; exact sz25_n1) o51_4.lt
  have f72 := f53.ext E71
  have f73 := f54.ext E71
  have f74 := f55.ext E71
  have f75 := f56.ext E71
  have f76 := f57.ext E71
  have f77 := f58.ext E71
  have f78 := f59.ext E71
  have f79 := f60.ext E71
  have f80 := f61.ext E71
  have f81 := f62.ext E71
  have f82 := f63.ext E71
  have f83 := f64.ext E71
  have f84 := o51_0.ext E71
  have f85 := o51_1.ext E71
  have f86 := o51_2.ext E71
  have f87 := o51_3.ext E71
  have f88 := o51_4.ext E71
  have K89 : Keep h0 h71 [] := K70.ext E71
  have zz71 : h0.size ≤ h71.size := Nat.le_trans zz51 E71.1
  refine o_callV X71 hx hZ hown (hw _ (List.mem_of_getElem? (i := 100) rfl)) (hw _ (List.mem_of_getElem? (i := 101) rfl)) (hw _ (List.mem_of_getElem? (i := 103) rfl)) (hw _ (List.mem_of_getElem? (i := 102) rfl)) (hw _ (List.mem_of_getElem? (i := 84) rfl)) (hw _ (List.mem_of_getElem? (i := 104) rfl)) (by decide) e71 f84 (argsL := [(.ref la71)]) (rest := []) (c_sp12 l Z a0 hw b3 la71 lb71 lk71 n1_25 kn_25 cs ze0 ze1 (32 : Int32) h71 h0.size zz71 gg3 gg25_n1 f84 f85 f86 f87 A71 FC71 FV71 V71 f88 (Ne.symm ny71_n1_25) (Ne.symm nx71_n1_25) ne32 nx71_b3 ny71_b3 f83 hcs) 0 (by decide) (by decide) (by decide) (by decide) (by rw [hml]; rfl) (lenOf o_pd24 rfl) rfl (Nat.le_of_eq rfl) (hb hby d_prog_5_method_8_code_30) (n := 33) rfl ?_
  intro v90 T90 L90 X90 q90
  obtain ⟨rfl, Nq90, K90, o90_0, o90_1, o90_2, o90_3, o90_4⟩ := q90
  have N91 := Fr.app N52 Nq90
  have f92 := f72.keep K90
  have f93 := f73.keep K90 (ninS ne4 (ninS ne27 nin0))
  have f94 := f74.keep K90 (ninS ne4 (ninS ne27 nin0))
  have f95 := f75.keep K90
  have f96 := f76.keep K90 (ninS ne5 (ninS ne28 nin0))
  have f97 := f77.keep K90 (ninS ne5 (ninS ne28 nin0))
  have f98 := f78.keep K90 (ninS ne6 (ninS ne29 nin0))
  have f99 := f79.keep K90
  have f100 := f80.keep K90 (ninS ne7 (ninS ne30 nin0))
  have f101 := f81.keep K90 (ninS ne7 (ninS ne30 nin0))
  have f102 := f82.keep K90 (ninS ne8 (ninS ne31 nin0))
  have f103 := o_sta_keep f83 K90 (allS (P := fun a => ∀ cl : Cell, h71[a]? = some cl → cl.vm.isStatics = false) (o_exa_ns f84) (allS (P := fun a => ∀ cl : Cell, h71[a]? = some cl → cl.vm.isStatics = false) (o_arv_ns f88) all0))
  have f104 := f84.keep K90
  have f109 := A71.keep K90
  have f110 := FC71.keep K90 (ninS (Ne.symm nx71_b3) (ninS (Ne.symm nx71_n1_25) nin0))
  have f111 := FV71.keep K90 (ninS (Ne.symm nx71_b3) (ninS (Ne.symm nx71_n1_25) nin0))
  have f112 := V71.keep K90 (ninS (Ne.symm ny71_b3) (ninS (Ne.symm ny71_n1_25) nin0))
  have zz90 : h0.size ≤ T90.heap.size := Nat.le_trans zz71 K90.1
  have K113 : Keep h0 T90.heap [] := K89.trans K90 (allS (P := fun x => x ∈ [] ∨ h0.size ≤ x) (Or.inr sz3) (allS (P := fun x => x ∈ [] ∨ h0.size ≤ x) (Or.inr sz25_n1) all0))
  show Goes _ _ p e below s _ _ _ (T90.setTop (mkF m 33 #[.val (.ref a1)] [(.ref b3)]))
  refine o_aloadN X90 hx (hb hby d_prog_5_method_8_code_33) (v := (.ref a1)) rfl rfl (n := 34) rfl ?_
  refine o_getfield X90 hx hZ hown (host := "") (Or.inl (hw _ (List.mem_of_getElem? (i := 65) rfl))) Via.refl (rfl : T90.heap = T90.heap) f94 (hb hby d_prog_5_method_8_code_34) (n := 37) rfl ?_
  intro T114 X114 e114
  refine o_callV X114 hx hZ hown (hw _ (List.mem_of_getElem? (i := 100) rfl)) (hw _ (List.mem_of_getElem? (i := 101) rfl)) (hw _ (List.mem_of_getElem? (i := 103) rfl)) (hw _ (List.mem_of_getElem? (i := 102) rfl)) (hw _ (List.mem_of_getElem? (i := 84) rfl)) (hw _ (List.mem_of_getElem? (i := 104) rfl)) (by decide) e114 o90_0 (argsL := [(.ref v1)]) (rest := []) (c_sp23 l Z a0 hw b3 v1 vu kv n1_25 kn_25 cs ze0 ze1 (32 : Int32) zf0 zf1 T90.heap h0.size zz90 gg3 gg25_n1 o90_0 o90_1 o90_2 o90_3 f99 f100 f101 f102 o90_4 ne31 ne30 ne32 (Ne.symm ne7) (Ne.symm ne8) f103 hcs) 0 (by decide) (by decide) (by decide) (by decide) (by rw [hml]; rfl) (lenOf o_pd24 rfl) rfl (Nat.le_of_eq rfl) (hb hby d_prog_5_method_8_code_37) (n := 40) rfl ?_
  intro v115 T115 L115 X115 q115
  obtain ⟨rfl, Nq115, K115, o115_0, o115_1, o115_2, o115_3, o115_4⟩ := q115
  have N116 := Fr.app N91 Nq115
  have f117 := f92.keep K115
  have f118 := f93.keep K115 (ninS ne4 (ninS ne27 nin0))
  have f119 := f94.keep K115 (ninS ne4 (ninS ne27 nin0))
  have f120 := f95.keep K115
  have f121 := f96.keep K115 (ninS ne5 (ninS ne28 nin0))
  have f122 := f97.keep K115 (ninS ne5 (ninS ne28 nin0))
  have f123 := f98.keep K115 (ninS ne6 (ninS ne29 nin0))
  have f124 := f99.keep K115
  have f125 := f100.keep K115 (ninS ne7 (ninS ne30 nin0))
  have f126 := f101.keep K115 (ninS ne7 (ninS ne30 nin0))
  have f127 := f102.keep K115 (ninS ne8 (ninS ne31 nin0))
  have f128 := o_sta_keep f103 K115 (allS (P := fun a => ∀ cl : Cell, T90.heap[a]? = some cl → cl.vm.isStatics = false) (o_exa_ns o90_0) (allS (P := fun a => ∀ cl : Cell, T90.heap[a]? = some cl → cl.vm.isStatics = false) (o_arv_ns o90_4) all0))
  have f129 := o90_0.keep K115
  have f130 := f109.keep K115
  have f131 := f110.keep K115 (ninS (Ne.symm nx71_b3) (ninS (Ne.symm nx71_n1_25) nin0))
  have f132 := f111.keep K115 (ninS (Ne.symm nx71_b3) (ninS (Ne.symm nx71_n1_25) nin0))
  have f133 := f112.keep K115 (ninS (Ne.symm ny71_b3) (ninS (Ne.symm ny71_n1_25) nin0))
  have zz115 : h0.size ≤ T115.heap.size := Nat.le_trans zz90 K115.1
  have K138 : Keep h0 T115.heap [] := K113.trans K115 (allS (P := fun x => x ∈ [] ∨ h0.size ≤ x) (Or.inr sz3) (allS (P := fun x => x ∈ [] ∨ h0.size ≤ x) (Or.inr sz25_n1) all0))
  show Goes _ _ p e below s _ _ _ (T115.setTop (mkF m 40 #[.val (.ref a1)] [(.ref b3)]))
  refine o_callV X115 hx hZ hown (hw _ (List.mem_of_getElem? (i := 150) rfl)) (hw _ (List.mem_of_getElem? (i := 151) rfl)) (hw _ (List.mem_of_getElem? (i := 153) rfl)) (hw _ (List.mem_of_getElem? (i := 152) rfl)) (hw _ (List.mem_of_getElem? (i := 84) rfl)) (hw _ (List.mem_of_getElem? (i := 154) rfl)) (by decide) (rfl : T115.heap = T115.heap) o115_0 (argsL := []) (rest := []) (c_ts3_5 l Z a0 hw b3 n1_25 kn_25 cs ze0 ze1 (32 : Int32) zf0 zf1 T115.heap h0.size zz115 o115_0 o115_1 o115_2 o115_3 o115_4 f128 hcs) 0 (by decide) (by decide) (by decide) (by decide) (by rw [hml]; rfl) (lenOf o_pd25 rfl) rfl (Nat.le_of_eq rfl) (hb hby d_prog_5_method_8_code_40) (n := 43) rfl ?_
  intro v139 T139 L139 X139 q139
  obtain ⟨s1_139, n1_139, kn_139, rfl, Nq139, K139, sq139_s1, sq139_n1, o139_0, o139_1, o139_2, o139_3⟩ := q139
  have N140 := Fr.app N116 Nq139
  have ne141 : a1 ≠ s1_139 := Nat.ne_of_lt (Nat.lt_of_lt_of_le f117.lt sq139_s1)
  have ne142 : m1 ≠ s1_139 := Nat.ne_of_lt (Nat.lt_of_lt_of_le f120.lt sq139_s1)
  have ne143 : mu ≠ s1_139 := Nat.ne_of_lt (Nat.lt_of_lt_of_le f123.lt sq139_s1)
  have ne144 : v1 ≠ s1_139 := Nat.ne_of_lt (Nat.lt_of_lt_of_le f124.lt sq139_s1)
  have ne145 : vu ≠ s1_139 := Nat.ne_of_lt (Nat.lt_of_lt_of_le f127.lt sq139_s1)
  have ne146 : b3 ≠ s1_139 := Nat.ne_of_lt (Nat.lt_of_lt_of_le o115_0.lt sq139_s1)
  have ne147 : la71 ≠ s1_139 := Nat.ne_of_lt (Nat.lt_of_lt_of_le f130.lt sq139_s1)
  have ne148 : lb71 ≠ s1_139 := Nat.ne_of_lt (Nat.lt_of_lt_of_le f133.lt sq139_s1)
  have ne149 : n1_25 ≠ s1_139 := Nat.ne_of_lt (Nat.lt_of_lt_of_le o115_4.lt sq139_s1)
  have gg139_s1 : h0.size ≤ s1_139 := Nat.le_trans zz115 sq139_s1
  have sz139_s1 : h0.size ≤ s1_139 := Nat.le_trans K138.1 sq139_s1
  have ne150 : a1 ≠ n1_139 := Nat.ne_of_lt (Nat.lt_of_lt_of_le f117.lt sq139_n1)
  have ne151 : m1 ≠ n1_139 := Nat.ne_of_lt (Nat.lt_of_lt_of_le f120.lt sq139_n1)
  have ne152 : mu ≠ n1_139 := Nat.ne_of_lt (Nat.lt_of_lt_of_le f123.lt sq139_n1)
  have ne153 : v1 ≠ n1_139 := Nat.ne_of_lt (Nat.lt_of_lt_of_le f124.lt sq139_n1)
  have ne154 : vu ≠ n1_139 := Nat.ne_of_lt (Nat.lt_of_lt_of_le f127.lt sq139_n1)
  have ne155 : b3 ≠ n1_139 := Nat.ne_of_lt (Nat.lt_of_lt_of_le o115_0.lt sq139_n1)
  have ne156 : la71 ≠ n1_139 := Nat.ne_of_lt (Nat.lt_of_lt_of_le f130.lt sq139_n1)
  have ne157 : lb71 ≠ n1_139 := Nat.ne_of_lt (Nat.lt_of_lt_of_le f133.lt sq139_n1)
  have ne158 : n1_25 ≠ n1_139 := Nat.ne_of_lt (Nat.lt_of_lt_of_le o115_4.lt sq139_n1)
  have gg139_n1 : h0.size ≤ n1_139 := Nat.le_trans zz115 sq139_n1
  have sz139_n1 : h0.size ≤ n1_139 := Nat.le_trans K138.1 sq139_n1
  have f159 := f117.keep K139
  have f160 := f118.keep K139 nin0
  have f161 := f119.keep K139 nin0
  have f162 := f120.keep K139
  have f163 := f121.keep K139 nin0
  have f164 := f122.keep K139 nin0
  have f165 := f123.keep K139 nin0
  have f166 := f124.keep K139
  have f167 := f125.keep K139 nin0
  have f168 := f126.keep K139 nin0
  have f169 := f127.keep K139 nin0
  have f170 := o_sta_keep f128 K139 all0
  have f171 := o115_0.keep K139
  have f172 := f130.keep K139
  have f173 := f131.keep K139 nin0
  have f174 := f132.keep K139 nin0
  have f175 := f133.keep K139 nin0
  have f176 := o115_1.keep K139 nin0
  have f177 := o115_2.keep K139 nin0
  have f178 := o115_3.keep K139 nin0
  have f179 := o115_4.keep K139 nin0
  have zz139 : h0.size ≤ T139.heap.size := Nat.le_trans zz115 K139.1
  have K180 : Keep h0 T139.heap [] := K138.trans K139 all0
  show Goes _ _ p e below s _ _ _ (T139.setTop (mkF m 43 #[.val (.ref a1)] [(.ref s1_139)]))
  exact o_areturnW X139 hx S71 (Nat.le_trans (Nat.le_trans (Nat.le_trans hk71 K90.1) K115.1) K139.1) hret hlk rfl rfl (hb hby d_prog_5_method_8_code_43) (by decide) (by decide) (rfl : T139.heap = T139.heap) (fun vm hW => o_ibW (s := s.setVm _) IB71 hW) ⟨s1_139, n1_139, kn_139, rfl, N140, K180, sz139_s1, sz139_n1, o139_0, o139_1, o139_2, o139_3⟩
theorem o_pd26 : parseMethodDescriptor "([C)V" = some ⟨[(.array .char)], none⟩ := by decide +kernel
theorem o_pd27 : parseMethodDescriptor "(I)Lcom/example/estim365/estim365/cli/Option$Occurrence;" = some ⟨[.int], some (.object "com/example/estim365/estim365/cli/Option$Occurrence")⟩ := by decide +kernel
theorem o_pd28 : parseMethodDescriptor "(C)Ljava/lang/String;" = some ⟨[.char], some (.object "java/lang/String")⟩ := by decide +kernel
theorem o_pd29 : parseMethodDescriptor "(Ljava/lang/Object;)Z" = some ⟨[(.object "java/lang/Object")], some .boolean⟩ := by decide +kernel
theorem o_pd30 : parseMethodDescriptor "(Ljava/lang/String;Ljava/lang/String;)Lcom/example/estim365/estim365/cli/Option;" = some ⟨[(.object "java/lang/String"), (.object "java/lang/String")], some (.object "com/example/estim365/estim365/cli/Option")⟩ := by decide +kernel
theorem o_ef88 (m : MethodId) (p0 : Int32) (p1 : Int32) (p2 : Int32) (p3 : Int32) : entryFrame m #[(.int p0), (.int p1), (.int p2), (.int p3)] maxLocals = mkF m 0 #[.val (.int p0), .val (.int p1), .val (.int p2), .val (.int p3), .unset, .unset, .unset, .unset, .unset, .unset, .unset, .unset, .unset, .unset, .unset] [] := by first | (simp [entryFrame, mkF, argsToLocals, Value.category, maxLocals]; done) | rfl
set_option maxRecDepth 65536 in
set_option maxHeartbeats 40000000 in
theorem o_law (l : Launch) (Z : State) (a0 : Array Value) (hw : ∀ d ∈ tables_1, d.before a0 Z = true) (p0 p1 p2 p3 : Int32) (h0 : Heap) (n0 : Nat) (Z0 : n0 ≤ h0.size) (cs : Int32) (x0 : Addr) (x1 : Addr) (x2 : Addr) (x3 : Addr) (pS_REQUIRED : Sta Z h0 "com/example/estim365/estim365/cli/Option$Occurrence" "REQUIRED" "Lcom/example/estim365/estim365/cli/Option$Occurrence;" (.ref x0)) (pS_OPTIONAL : Sta Z h0 "com/example/estim365/estim365/cli/Option$Occurrence" "OPTIONAL" "Lcom/example/estim365/estim365/cli/Option$Occurrence;" (.ref x1)) (pS_REPEATED : Sta Z h0 "com/example/estim365/estim365/cli/Option$Occurrence" "REPEATED" "Lcom/example/estim365/estim365/cli/Option$Occurrence;" (.ref x2)) (pS_OPTIONAL_REPEATED : Sta Z h0 "com/example/estim365/estim365/cli/Option$Occurrence" "OPTIONAL_REPEATED" "Lcom/example/estim365/estim365/cli/Option$Occurrence;" (.ref x3)) (pS_COMPACT_STRINGS : Sta Z h0 "java/lang/String" "COMPACT_STRINGS" "Z" (.int cs)) (hcs : ¬ cs = (0 : Int32)) (hZ0 : Z.heap = h0) (hheld : ∀ q ∈ [("com/example/estim365/estim365/cli/Option", 51), ("java/lang/String", 7)], Jvm.Lit.constHeld Z q.1 q.2) (hcw : Jvm.Lit.compactW.before a0 Z = true) :
    DoesW l Z x code maxLocals ret tables_1 room_1 #[(.int p0), (.int p1), (.int p2), (.int p3)] h0 (fun vm => IB Z vm []) (fun v h L => v = some (.int 1) ∧ Fr n0 L) (fun _ => True) := by
  refine DoesW.of (plainFor_of_name o_pn3) ?_
  intro p e s m below meth c T0 hx hby hml hown hnm hret hlk hZ X0 e0 es0 IB0 S0
  have hown : (s.setVm s.vm).vm.findClass "com/example/estim365/estim365/cli/OptionIsFlagPinLaw" = some m.cls := hown
  have hZ : Z.Warmed39 (s.setVm s.vm).vm := hZ
  have hml : c.maxLocals = 15 := hml
  have hret : meth.sig.returnType = some .boolean := hret
  refine o_entry (o_ef88 m p0 p1 p2 p3) ?_
  have N0 := Fr.nil n0
  obtain ⟨ca, hca, qca, nca⟩ := o_ch p0
  obtain ⟨cb, hcb, qcb, ncb⟩ := o_ch (p0.toUInt32 >>> (8 : UInt32)).toInt32
  obtain ⟨cc, hcc, qcc, ncc⟩ := o_ch p1
  obtain ⟨cd, hcd, qcd, ncd⟩ := o_ch (p1.toUInt32 >>> (8 : UInt32)).toInt32
  obtain ⟨ce, hce, qce, nce⟩ := o_ch p3
  rcases o_and3 p2 with q | q | q | q
  · refine o_iconst X0 hx (hb hby at_0) (v := (2 : Int32)) rfl (n := 1) rfl ?_
    refine o_newarray X0 hx hZ (aty := .char) (hw _ (List.mem_of_getElem? (i := 0) rfl)) e0 (hb hby at_1) (by decide) 2 (by decide) (by decide) (by decide) (by decide) (n := 3) rfl ?_
    intro T1 h1 b1 k1 X1 e1 g1 E1 V1
    have gg1 : n0 ≤ b1 := Nat.le_trans Z0 (Nat.le_of_eq g1.symm)
    have zz1 : n0 ≤ h1.size := Nat.le_trans Z0 E1.1
    have sz1 : h0.size ≤ b1 := Nat.le_trans (Keep.refl h0 []).1 (Nat.le_of_eq g1.symm)
    have f2 := pS_REQUIRED.ext E1
    have f3 := pS_OPTIONAL.ext E1
    have f4 := pS_REPEATED.ext E1
    have f5 := pS_OPTIONAL_REPEATED.ext E1
    have f6 := pS_COMPACT_STRINGS.ext E1
    have K7 : Keep h0 h1 [] := (Keep.refl h0 []).ext E1
    have f8 : Arv Z h1 b1 k1 .char (2 : Int32) [(.int (0 : Int32)), (.int (0 : Int32))] (.int (0 : Int32)) := V1.pad (pad_rep [] (.int (0 : Int32)) 2)
    refine o_astore X1 hx (hb hby at_3) rfl (Ls' := #[.val (.int p0), .val (.int p1), .val (.int p2), .val (.int p3), .val (.ref b1), .unset, .unset, .unset, .unset, .unset, .unset, .unset, .unset, .unset, .unset]) rfl (n := 5) rfl ?_
    refine o_aload X1 hx (hb hby at_5) (v := (.ref b1)) rfl rfl (n := 7) rfl ?_
    refine o_iconst X1 hx (hb hby at_7) (v := (0 : Int32)) rfl (n := 8) rfl ?_
    refine o_iloadN X1 hx (hb hby at_8) (v := p0) rfl (n := 9) rfl ?_
    refine o_sipush X1 hx (hb hby at_9) (v := (255 : Int32)) rfl (n := 12) rfl ?_
    refine o_iand X1 hx (hb hby at_12) (v := (p0 &&& (255 : Int32))) rfl (n := 13) rfl ?_
    refine o_i2c X1 hx (hb hby at_13) (v := ca) hca (n := 14) rfl ?_
    refine o_castore X1 hx hZ e1 f8 (0) (by decide) (by decide) (Nat.le_of_ble_eq_true rfl) (w := (.int ca)) (congrArg Value.int nca) (vs' := [(.int ca), (.int (0 : Int32))]) rfl (o_fitC _) (hb hby at_14) (n := 15) rfl ?_
    intro T9 h9 X9 e9 W9 V9
    have f10 := f2.wr W9
    have f11 := f3.wr W9
    have f12 := f4.wr W9
    have f13 := f5.wr W9
    have f14 := f6.wr W9
    have zz9 : n0 ≤ h9.size := Nat.le_trans zz1 (Nat.le_of_eq W9.size.symm)
    have N15 := Fr.snoc X9 N0 gg1
    have K16 : Keep h0 h9 [] := K7.wr W9 (Or.inr sz1)
    refine o_aload X9 hx (hb hby at_15) (v := (.ref b1)) rfl rfl (n := 17) rfl ?_
    refine o_iconst X9 hx (hb hby at_17) (v := (1 : Int32)) rfl (n := 18) rfl ?_
    refine o_iloadN X9 hx (hb hby at_18) (v := p0) rfl (n := 19) rfl ?_
    refine o_bipush X9 hx (hb hby at_19) (v := (8 : Int32)) rfl (n := 21) rfl ?_
    refine o_iushr X9 hx (hb hby at_21) (v := (p0.toUInt32 >>> (8 : UInt32)).toInt32) (congrArg (fun q : UInt32 => (p0.toUInt32 >>> q).toInt32) (show ((8 : Int32) &&& 31).toUInt32 = 8 by decide)) (n := 22) rfl ?_
    refine o_sipush X9 hx (hb hby at_22) (v := (255 : Int32)) rfl (n := 25) rfl ?_
    refine o_iand X9 hx (hb hby at_25) (v := ((p0.toUInt32 >>> (8 : UInt32)).toInt32 &&& (255 : Int32))) rfl (n := 26) rfl ?_
    refine o_i2c X9 hx (hb hby at_26) (v := cb) hcb (n := 27) rfl ?_
    refine o_castore X9 hx hZ e9 V9 (1) (by decide) (by decide) (Nat.le_of_ble_eq_true rfl) (w := (.int cb)) (congrArg Value.int ncb) (vs' := [(.int ca), (.int cb)]) rfl (o_fitC _) (hb hby at_27) (n := 28) rfl ?_
    intro T17 h17 X17 e17 W17 V17
    have f18 := f10.wr W17
    have f19 := f11.wr W17
    have f20 := f12.wr W17
    have f21 := f13.wr W17
    have f22 := f14.wr W17
    have zz17 : n0 ≤ h17.size := Nat.le_trans zz9 (Nat.le_of_eq W17.size.symm)
    have N23 := Fr.snoc X17 N15 gg1
    have K24 : Keep h0 h17 [] := K16.wr W17 (Or.inr sz1)
    refine o_new X17 hx hZ hown (hw _ (List.mem_of_getElem? (i := 1) rfl)) (hw _ (List.mem_of_getElem? (i := 2) rfl)) (hw _ (List.mem_of_getElem? (i := 3) rfl)) e17 (hb hby at_28) (by decide) (by decide) (n := 31) rfl ?_
    intro T25 h25 b25 X25 e25 g25 E25 A25 D25
    have ne26 : b1 ≠ b25 := Nat.ne_of_lt (Nat.lt_of_lt_of_eq V17.lt g25.symm)
    have gg25 : n0 ≤ b25 := Nat.le_trans zz17 (Nat.le_of_eq g25.symm)
    have zz25 : n0 ≤ h25.size := Nat.le_trans zz17 E25.1
    have sz25 : h0.size ≤ b25 := Nat.le_trans K24.1 (Nat.le_of_eq g25.symm)
    have f27 := f18.ext E25
    have f28 := f19.ext E25
    have f29 := f20.ext E25
    have f30 := f21.ext E25
    have f31 := f22.ext E25
    have f32 := V17.ext E25
    have K33 : Keep h0 h25 [] := K24.ext E25
    have f34 : Fld Z h25 b25 "java/lang/String" "coder" "B" (.int (0 : Int32)) := D25 (Or.inr (hw _ (List.mem_of_getElem? (i := 27) rfl))) (ty := .byte) (by decide)
    have f35 : Fld Z h25 b25 "java/lang/String" "value" "[B" .null := D25 (Or.inr (hw _ (List.mem_of_getElem? (i := 29) rfl))) (ty := (.array .byte)) (by decide)
    refine o_dup X25 hx (hb hby at_31) rfl (n := 32) rfl ?_
    refine o_aload X25 hx (hb hby at_32) (v := (.ref b1)) rfl rfl (n := 34) rfl ?_
    refine o_callN X25 hx hZ rfl hown (hw _ (List.mem_of_getElem? (i := 4) rfl)) (hw _ (List.mem_of_getElem? (i := 5) rfl)) (hw _ (List.mem_of_getElem? (i := 3) rfl)) (hw _ (List.mem_of_getElem? (i := 6) rfl)) (by decide) e25 (a := b25) (argsL := [(.ref b1)]) (rest := [(.ref b25)]) (c_in1 l Z a0 hw b25 b1 k1 ca cb cs h25 n0 zz25 gg25 A25 f34 f35 f32 (Ne.symm ne26) f31 qca qcb hcs) 1 (by decide) (by decide) (by decide) (by decide) (by rw [hml]; rfl) (lenOf o_pd26 rfl) rfl (Nat.le_of_eq rfl) (hb hby at_34) (n := 37) rfl ?_
    intro v36 T36 L36 X36 q36
    obtain ⟨n1_36, kn_36, rfl, Nq36, K36, sq36_n1, o36_0, o36_1, o36_2, o36_3⟩ := q36
    have N37 := Fr.app N23 Nq36
    have ne38 : b1 ≠ n1_36 := Nat.ne_of_lt (Nat.lt_of_lt_of_le f32.lt sq36_n1)
    have ne39 : b25 ≠ n1_36 := Nat.ne_of_lt (Nat.lt_of_lt_of_le A25.lt sq36_n1)
    have gg36_n1 : n0 ≤ n1_36 := Nat.le_trans zz25 sq36_n1
    have sz36_n1 : h0.size ≤ n1_36 := Nat.le_trans K33.1 sq36_n1
    have f40 := o_sta_keep f27 K36 (allS (P := fun a => ∀ cl : Cell, h25[a]? = some cl → cl.vm.isStatics = false) (o_exa_ns A25) all0)
    have f41 := o_sta_keep f28 K36 (allS (P := fun a => ∀ cl : Cell, h25[a]? = some cl → cl.vm.isStatics = false) (o_exa_ns A25) all0)
    have f42 := o_sta_keep f29 K36 (allS (P := fun a => ∀ cl : Cell, h25[a]? = some cl → cl.vm.isStatics = false) (o_exa_ns A25) all0)
    have f43 := o_sta_keep f30 K36 (allS (P := fun a => ∀ cl : Cell, h25[a]? = some cl → cl.vm.isStatics = false) (o_exa_ns A25) all0)
    have f44 := o_sta_keep f31 K36 (allS (P := fun a => ∀ cl : Cell, h25[a]? = some cl → cl.vm.isStatics = false) (o_exa_ns A25) all0)
    have f45 := f32.keep K36 (ninS ne26 nin0)
    have f46 := A25.keep K36
    have zz36 : n0 ≤ T36.heap.size := Nat.le_trans zz25 K36.1
    have K49 : Keep h0 T36.heap [] := K33.trans K36 (allS (P := fun x => x ∈ [] ∨ h0.size ≤ x) (Or.inr sz25) all0)
    show Goes _ _ p e below s _ _ _ (T36.setTop (mkF m 37 #[.val (.int p0), .val (.int p1), .val (.int p2), .val (.int p3), .val (.ref b1), .unset, .unset, .unset, .unset, .unset, .unset, .unset, .unset, .unset, .unset] [(.ref b25)]))
    refine o_astore X36 hx (hb hby at_37) rfl (Ls' := #[.val (.int p0), .val (.int p1), .val (.int p2), .val (.int p3), .val (.ref b1), .val (.ref b25), .unset, .unset, .unset, .unset, .unset, .unset, .unset, .unset, .unset]) rfl (n := 39) rfl ?_
    refine o_iloadN X36 hx (hb hby at_39) (v := p2) rfl (n := 40) rfl ?_
    refine o_iconst X36 hx (hb hby at_40) (v := (3 : Int32)) rfl (n := 41) rfl ?_
    refine o_iand X36 hx (hb hby at_41) (v := (0 : Int32)) q (n := 42) rfl ?_
    refine o_istore X36 hx (hb hby at_42) (Ls' := #[.val (.int p0), .val (.int p1), .val (.int p2), .val (.int p3), .val (.ref b1), .val (.ref b25), .val (.int (0 : Int32)), .unset, .unset, .unset, .unset, .unset, .unset, .unset, .unset]) rfl (n := 44) rfl ?_
    refine o_iload X36 hx (hb hby at_44) (v := (0 : Int32)) rfl (n := 46) rfl ?_
    refine o_ifN X36 hx (hb hby at_46) (XT.i0_ne_f (by decide)) (n := 49) rfl ?_
    refine o_aconst_null X36 hx (hb hby at_49) (n := 50) rfl ?_
    refine o_astore X36 hx (hb hby at_50) rfl (Ls' := #[.val (.int p0), .val (.int p1), .val (.int p2), .val (.int p3), .val (.ref b1), .val (.ref b25), .val (.int (0 : Int32)), .val .null, .unset, .unset, .unset, .unset, .unset, .unset, .unset]) rfl (n := 52) rfl ?_
    refine o_goto X36 hx (hb hby at_52) (by decide) (n := 135) (by decide) ?_
    refine o_iloadN X36 hx (hb hby at_135) (v := p2) rfl (n := 136) rfl ?_
    refine o_iconst X36 hx (hb hby at_136) (v := (2 : Int32)) rfl (n := 137) rfl ?_
    refine o_iushr X36 hx (hb hby at_137) (v := (p2.toUInt32 >>> (2 : UInt32)).toInt32) (congrArg (fun q : UInt32 => (p2.toUInt32 >>> q).toInt32) (show ((2 : Int32) &&& 31).toUInt32 = 2 by decide)) (n := 138) rfl ?_
    refine o_iconst X36 hx (hb hby at_138) (v := (3 : Int32)) rfl (n := 139) rfl ?_
    refine o_iand X36 hx (hb hby at_139) (v := ((p2.toUInt32 >>> (2 : UInt32)).toInt32 &&& (3 : Int32))) rfl (n := 140) rfl ?_
    refine o_callS X36 hx hZ hown (hw _ (List.mem_of_getElem? (i := 44) rfl)) (hw _ (List.mem_of_getElem? (i := 45) rfl)) (hw _ (List.mem_of_getElem? (i := 46) rfl)) (hw _ (List.mem_of_getElem? (i := 47) rfl)) (by decide) (rfl : T36.heap = T36.heap) (argsL := [(.int ((p2.toUInt32 >>> (2 : UInt32)).toInt32 &&& (3 : Int32)))]) (rest := []) (c_occ l Z a0 hw ((p2.toUInt32 >>> (2 : UInt32)).toInt32 &&& (3 : Int32)) x0 x1 x2 x3 T36.heap f40 f41 f42 f43) 0 (by decide) (by decide) (by decide) (by decide) (by rw [hml]; rfl) (lenOf o_pd27 rfl) rfl (Nat.le_of_eq rfl) (hb hby at_140) (n := 143) rfl ?_
    intro v50 T50 L50 X50 q50
    obtain ⟨rfl, e50, rfl⟩ := q50
    have N51 := Fr.app N37 (Fr.nil n0)
    show Goes _ _ p e below s _ _ _ (T50.setTop (mkF m 143 #[.val (.int p0), .val (.int p1), .val (.int p2), .val (.int p3), .val (.ref b1), .val (.ref b25), .val (.int (0 : Int32)), .val .null, .unset, .unset, .unset, .unset, .unset, .unset, .unset] [(.ref (o_oc ((p2.toUInt32 >>> (2 : UInt32)).toInt32 &&& (3 : Int32)) x0 x1 x2 x3))]))
    refine o_astore X50 hx (hb hby at_143) rfl (Ls' := #[.val (.int p0), .val (.int p1), .val (.int p2), .val (.int p3), .val (.ref b1), .val (.ref b25), .val (.int (0 : Int32)), .val .null, .val (.ref (o_oc ((p2.toUInt32 >>> (2 : UInt32)).toInt32 &&& (3 : Int32)) x0 x1 x2 x3)), .unset, .unset, .unset, .unset, .unset, .unset]) rfl (n := 145) rfl ?_
    refine o_iloadN X50 hx (hb hby at_145) (v := p3) rfl (n := 146) rfl ?_
    refine o_sipush X50 hx (hb hby at_146) (v := (255 : Int32)) rfl (n := 149) rfl ?_
    refine o_iand X50 hx (hb hby at_149) (v := (p3 &&& (255 : Int32))) rfl (n := 150) rfl ?_
    refine o_i2c X50 hx (hb hby at_150) (v := ce) hce (n := 151) rfl ?_
    refine o_callS X50 hx hZ hown (hw _ (List.mem_of_getElem? (i := 30) rfl)) (hw _ (List.mem_of_getElem? (i := 31) rfl)) (hw _ (List.mem_of_getElem? (i := 3) rfl)) (hw _ (List.mem_of_getElem? (i := 32) rfl)) (by decide) e50 (argsL := [(.int ce)]) (rest := []) (c_val l Z a0 hw ce cs T36.heap n0 zz36 f44 qce hcs) 0 (by decide) (by decide) (by decide) (by decide) (by rw [hml]; rfl) (lenOf o_pd28 rfl) rfl (Nat.le_of_eq rfl) (hb hby at_151) (n := 154) rfl ?_
    intro v52 T52 L52 X52 q52
    obtain ⟨s1_52, n1_52, kn_52, rfl, Nq52, K52, sq52_s1, sq52_n1, nq52_s1_n1, o52_0, o52_1, o52_2, o52_3⟩ := q52
    have N53 := Fr.app N51 Nq52
    have ne54 : b1 ≠ s1_52 := Nat.ne_of_lt (Nat.lt_of_lt_of_le f45.lt sq52_s1)
    have ne55 : b25 ≠ s1_52 := Nat.ne_of_lt (Nat.lt_of_lt_of_le o36_0.lt sq52_s1)
    have ne56 : n1_36 ≠ s1_52 := Nat.ne_of_lt (Nat.lt_of_lt_of_le o36_3.lt sq52_s1)
    have gg52_s1 : n0 ≤ s1_52 := Nat.le_trans zz36 sq52_s1
    have sz52_s1 : h0.size ≤ s1_52 := Nat.le_trans K49.1 sq52_s1
    have ne57 : b1 ≠ n1_52 := Nat.ne_of_lt (Nat.lt_of_lt_of_le f45.lt sq52_n1)
    have ne58 : b25 ≠ n1_52 := Nat.ne_of_lt (Nat.lt_of_lt_of_le o36_0.lt sq52_n1)
    have ne59 : n1_36 ≠ n1_52 := Nat.ne_of_lt (Nat.lt_of_lt_of_le o36_3.lt sq52_n1)
    have gg52_n1 : n0 ≤ n1_52 := Nat.le_trans zz36 sq52_n1
    have sz52_n1 : h0.size ≤ n1_52 := Nat.le_trans K49.1 sq52_n1
    have f60 := o_sta_keep f40 K52 all0
    have f61 := o_sta_keep f41 K52 all0
    have f62 := o_sta_keep f42 K52 all0
    have f63 := o_sta_keep f43 K52 all0
    have f64 := o_sta_keep f44 K52 all0
    have f65 := f45.keep K52 nin0
    have f66 := o36_0.keep K52
    have f67 := o36_1.keep K52 nin0
    have f68 := o36_2.keep K52 nin0
    have f69 := o36_3.keep K52 nin0
    have zz52 : n0 ≤ T52.heap.size := Nat.le_trans zz36 K52.1
    have K70 : Keep h0 T52.heap [] := K49.trans K52 all0
    show Goes _ _ p e below s _ _ _ (T52.setTop (mkF m 154 #[.val (.int p0), .val (.int p1), .val (.int p2), .val (.int p3), .val (.ref b1), .val (.ref b25), .val (.int (0 : Int32)), .val .null, .val (.ref (o_oc ((p2.toUInt32 >>> (2 : UInt32)).toInt32 &&& (3 : Int32)) x0 x1 x2 x3)), .unset, .unset, .unset, .unset, .unset, .unset] [(.ref s1_52)]))
    refine o_astore X52 hx (hb hby at_154) rfl (Ls' := #[.val (.int p0), .val (.int p1), .val (.int p2), .val (.int p3), .val (.ref b1), .val (.ref b25), .val (.int (0 : Int32)), .val .null, .val (.ref (o_oc ((p2.toUInt32 >>> (2 : UInt32)).toInt32 &&& (3 : Int32)) x0 x1 x2 x3)), .val (.ref s1_52), .unset, .unset, .unset, .unset, .unset]) rfl (n := 156) rfl ?_
    refine o_new X52 hx hZ hown (hw _ (List.mem_of_getElem? (i := 51) rfl)) (hw _ (List.mem_of_getElem? (i := 52) rfl)) (hw _ (List.mem_of_getElem? (i := 53) rfl)) (rfl : T52.heap = T52.heap) (hb hby at_156) (by decide) (by decide) (n := 159) rfl ?_
    intro T71 h71 b71 X71 e71 g71 E71 A71 D71
    have ne72 : b1 ≠ b71 := Nat.ne_of_lt (Nat.lt_of_lt_of_eq f65.lt g71.symm)
    have ne73 : b25 ≠ b71 := Nat.ne_of_lt (Nat.lt_of_lt_of_eq f66.lt g71.symm)
    have ne74 : n1_36 ≠ b71 := Nat.ne_of_lt (Nat.lt_of_lt_of_eq f69.lt g71.symm)
    have ne75 : s1_52 ≠ b71 := Nat.ne_of_lt (Nat.lt_of_lt_of_eq o52_0.lt g71.symm)
    have ne76 : n1_52 ≠ b71 := Nat.ne_of_lt (Nat.lt_of_lt_of_eq o52_3.lt g71.symm)
    have gg71 : n0 ≤ b71 := Nat.le_trans zz52 (Nat.le_of_eq g71.symm)
    have zz71 : n0 ≤ h71.size := Nat.le_trans zz52 E71.1
    have sz71 : h0.size ≤ b71 := Nat.le_trans K70.1 (Nat.le_of_eq g71.symm)
    have f77 := f60.ext E71
    have f78 := f61.ext E71
    have f79 := f62.ext E71
    have f80 := f63.ext E71
    have f81 := f64.ext E71
    have f82 := f65.ext E71
    have f83 := f66.ext E71
    have f84 := f67.ext E71
    have f85 := f68.ext E71
    have f86 := f69.ext E71
    have f87 := o52_0.ext E71
    have f88 := o52_1.ext E71
    have f89 := o52_2.ext E71
    have f90 := o52_3.ext E71
    have K91 : Keep h0 h71 [] := K70.ext E71
    have f92 : Fld Z h71 b71 "com/example/estim365/estim365/cli/Option" "name" "Ljava/lang/String;" .null := D71 (Or.inr (hw _ (List.mem_of_getElem? (i := 64) rfl))) (ty := (.object "java/lang/String")) (by decide)
    have f93 : Fld Z h71 b71 "com/example/estim365/estim365/cli/Option" "value" "Ljava/lang/String;" .null := D71 (Or.inr (hw _ (List.mem_of_getElem? (i := 66) rfl))) (ty := (.object "java/lang/String")) (by decide)
    have f94 : Fld Z h71 b71 "com/example/estim365/estim365/cli/Option" "occurrence" "Lcom/example/estim365/estim365/cli/Option$Occurrence;" .null := D71 (Or.inr (hw _ (List.mem_of_getElem? (i := 68) rfl))) (ty := (.object "com/example/estim365/estim365/cli/Option$Occurrence")) (by decide)
    have f95 : Fld Z h71 b71 "com/example/estim365/estim365/cli/Option" "description" "Ljava/lang/String;" .null := D71 (Or.inr (hw _ (List.mem_of_getElem? (i := 70) rfl))) (ty := (.object "java/lang/String")) (by decide)
    refine o_dup X71 hx (hb hby at_159) rfl (n := 160) rfl ?_
    refine o_aload X71 hx (hb hby at_160) (v := (.ref b25)) rfl rfl (n := 162) rfl ?_
    refine o_aload X71 hx (hb hby at_162) (v := .null) rfl rfl (n := 164) rfl ?_
    refine o_aload X71 hx (hb hby at_164) (v := (.ref (o_oc ((p2.toUInt32 >>> (2 : UInt32)).toInt32 &&& (3 : Int32)) x0 x1 x2 x3))) rfl rfl (n := 166) rfl ?_
    refine o_aload X71 hx (hb hby at_166) (v := (.ref s1_52)) rfl rfl (n := 168) rfl ?_
    refine o_callN X71 hx hZ rfl hown (hw _ (List.mem_of_getElem? (i := 54) rfl)) (hw _ (List.mem_of_getElem? (i := 55) rfl)) (hw _ (List.mem_of_getElem? (i := 53) rfl)) (hw _ (List.mem_of_getElem? (i := 56) rfl)) (by decide) e71 (a := b71) (argsL := [(.ref b25), .null, (.ref (o_oc ((p2.toUInt32 >>> (2 : UInt32)).toInt32 &&& (3 : Int32)) x0 x1 x2 x3)), (.ref s1_52)]) (rest := [(.ref b71)]) (c_opi1 l Z a0 hw b71 b25 (o_oc ((p2.toUInt32 >>> (2 : UInt32)).toInt32 &&& (3 : Int32)) x0 x1 x2 x3) s1_52 h71 n0 zz71 gg71 A71 f92 f93 f94 f95) 1 (by decide) (by decide) (by decide) (by decide) (by rw [hml]; rfl) (lenOf o_pd8 rfl) rfl (Nat.le_of_eq rfl) (hb hby at_168) (n := 171) rfl ?_
    intro v96 T96 L96 X96 q96
    obtain ⟨rfl, Nq96, K96, o96_0, o96_1, o96_2, o96_3, o96_4⟩ := q96
    have N97 := Fr.app N53 Nq96
    have f98 := o_sta_keep f77 K96 (allS (P := fun a => ∀ cl : Cell, h71[a]? = some cl → cl.vm.isStatics = false) (o_exa_ns A71) all0)
    have f99 := o_sta_keep f78 K96 (allS (P := fun a => ∀ cl : Cell, h71[a]? = some cl → cl.vm.isStatics = false) (o_exa_ns A71) all0)
    have f100 := o_sta_keep f79 K96 (allS (P := fun a => ∀ cl : Cell, h71[a]? = some cl → cl.vm.isStatics = false) (o_exa_ns A71) all0)
    have f101 := o_sta_keep f80 K96 (allS (P := fun a => ∀ cl : Cell, h71[a]? = some cl → cl.vm.isStatics = false) (o_exa_ns A71) all0)
    have f102 := o_sta_keep f81 K96 (allS (P := fun a => ∀ cl : Cell, h71[a]? = some cl → cl.vm.isStatics = false) (o_exa_ns A71) all0)
    have f103 := f82.keep K96 (ninS ne72 nin0)
    have f104 := f83.keep K96
    have f105 := f84.keep K96 (ninS ne73 nin0)
    have f106 := f85.keep K96 (ninS ne73 nin0)
    have f107 := f86.keep K96 (ninS ne74 nin0)
    have f108 := f87.keep K96
    have f109 := f88.keep K96 (ninS ne75 nin0)
    have f110 := f89.keep K96 (ninS ne75 nin0)
    have f111 := f90.keep K96 (ninS ne76 nin0)
    have f112 := A71.keep K96
    have zz96 : n0 ≤ T96.heap.size := Nat.le_trans zz71 K96.1
    have K117 : Keep h0 T96.heap [] := K91.trans K96 (allS (P := fun x => x ∈ [] ∨ h0.size ≤ x) (Or.inr sz71) all0)
    show Goes _ _ p e below s _ _ _ (T96.setTop (mkF m 171 #[.val (.int p0), .val (.int p1), .val (.int p2), .val (.int p3), .val (.ref b1), .val (.ref b25), .val (.int (0 : Int32)), .val .null, .val (.ref (o_oc ((p2.toUInt32 >>> (2 : UInt32)).toInt32 &&& (3 : Int32)) x0 x1 x2 x3)), .val (.ref s1_52), .unset, .unset, .unset, .unset, .unset] [(.ref b71)]))
    refine o_astore X96 hx (hb hby at_171) rfl (Ls' := #[.val (.int p0), .val (.int p1), .val (.int p2), .val (.int p3), .val (.ref b1), .val (.ref b25), .val (.int (0 : Int32)), .val .null, .val (.ref (o_oc ((p2.toUInt32 >>> (2 : UInt32)).toInt32 &&& (3 : Int32)) x0 x1 x2 x3)), .val (.ref s1_52), .val (.ref b71), .unset, .unset, .unset, .unset]) rfl (n := 173) rfl ?_
    refine o_aload X96 hx (hb hby at_173) (v := (.ref b71)) rfl rfl (n := 175) rfl ?_
    refine o_callV X96 hx hZ hown (hw _ (List.mem_of_getElem? (i := 71) rfl)) (hw _ (List.mem_of_getElem? (i := 72) rfl)) (hw _ (List.mem_of_getElem? (i := 74) rfl)) (hw _ (List.mem_of_getElem? (i := 73) rfl)) (hw _ (List.mem_of_getElem? (i := 53) rfl)) (hw _ (List.mem_of_getElem? (i := 75) rfl)) (by decide) (rfl : T96.heap = T96.heap) o96_0 (argsL := []) (rest := []) (c_isf1 l Z a0 hw b71 T96.heap o96_0 o96_2) 0 (by decide) (by decide) (by decide) (by decide) (by rw [hml]; rfl) (lenOf o_pd20 rfl) rfl (Nat.le_of_eq rfl) (hb hby at_175) (n := 178) rfl ?_
    intro v118 T118 L118 X118 q118
    obtain ⟨rfl, e118, rfl⟩ := q118
    have N119 := Fr.app N97 (Fr.nil n0)
    show Goes _ _ p e below s _ _ _ (T118.setTop (mkF m 178 #[.val (.int p0), .val (.int p1), .val (.int p2), .val (.int p3), .val (.ref b1), .val (.ref b25), .val (.int (0 : Int32)), .val .null, .val (.ref (o_oc ((p2.toUInt32 >>> (2 : UInt32)).toInt32 &&& (3 : Int32)) x0 x1 x2 x3)), .val (.ref s1_52), .val (.ref b71), .unset, .unset, .unset, .unset] [(.int (1 : Int32))]))
    refine o_istore X118 hx (hb hby at_178) (Ls' := #[.val (.int p0), .val (.int p1), .val (.int p2), .val (.int p3), .val (.ref b1), .val (.ref b25), .val (.int (0 : Int32)), .val .null, .val (.ref (o_oc ((p2.toUInt32 >>> (2 : UInt32)).toInt32 &&& (3 : Int32)) x0 x1 x2 x3)), .val (.ref s1_52), .val (.ref b71), .val (.int (1 : Int32)), .unset, .unset, .unset]) rfl (n := 180) rfl ?_
    refine o_iload X118 hx (hb hby at_180) (v := (0 : Int32)) rfl (n := 182) rfl ?_
    refine o_ifN X118 hx (hb hby at_182) (XT.i0_ne_f (by decide)) (n := 185) rfl ?_
    refine o_iconst X118 hx (hb hby at_185) (v := (1 : Int32)) rfl (n := 186) rfl ?_
    refine o_goto X118 hx (hb hby at_186) (by decide) (n := 190) (by decide) ?_
    refine o_istore X118 hx (hb hby at_190) (Ls' := #[.val (.int p0), .val (.int p1), .val (.int p2), .val (.int p3), .val (.ref b1), .val (.ref b25), .val (.int (0 : Int32)), .val .null, .val (.ref (o_oc ((p2.toUInt32 >>> (2 : UInt32)).toInt32 &&& (3 : Int32)) x0 x1 x2 x3)), .val (.ref s1_52), .val (.ref b71), .val (.int (1 : Int32)), .val (.int (1 : Int32)), .unset, .unset]) rfl (n := 192) rfl ?_
    refine o_aload X118 hx (hb hby at_192) (v := (.ref b71)) rfl rfl (n := 194) rfl ?_
    refine o_callV X118 hx hZ hown (hw _ (List.mem_of_getElem? (i := 76) rfl)) (hw _ (List.mem_of_getElem? (i := 77) rfl)) (hw _ (List.mem_of_getElem? (i := 79) rfl)) (hw _ (List.mem_of_getElem? (i := 78) rfl)) (hw _ (List.mem_of_getElem? (i := 53) rfl)) (hw _ (List.mem_of_getElem? (i := 80) rfl)) (by decide) e118 o96_0 (argsL := []) (rest := []) (c_gvn0 l Z a0 hw b71 b25 T96.heap o96_0 o96_1 o96_2) 0 (by decide) (by decide) (by decide) (by decide) (by rw [hml]; rfl) (lenOf o_pd25 rfl) rfl (Nat.le_of_eq rfl) (hb hby at_194) (n := 197) rfl ?_
    intro v120 T120 L120 X120 q120
    obtain ⟨rfl, e120, rfl⟩ := q120
    have N121 := Fr.app N119 (Fr.nil n0)
    show Goes _ _ p e below s _ _ _ (T120.setTop (mkF m 197 #[.val (.int p0), .val (.int p1), .val (.int p2), .val (.int p3), .val (.ref b1), .val (.ref b25), .val (.int (0 : Int32)), .val .null, .val (.ref (o_oc ((p2.toUInt32 >>> (2 : UInt32)).toInt32 &&& (3 : Int32)) x0 x1 x2 x3)), .val (.ref s1_52), .val (.ref b71), .val (.int (1 : Int32)), .val (.int (1 : Int32)), .unset, .unset] [(.ref b25)]))
    refine o_aload X120 hx (hb hby at_197) (v := (.ref b25)) rfl rfl (n := 199) rfl ?_
    refine o_callV X120 hx hZ hown (hw _ (List.mem_of_getElem? (i := 195) rfl)) (hw _ (List.mem_of_getElem? (i := 196) rfl)) (hw _ (List.mem_of_getElem? (i := 198) rfl)) (hw _ (List.mem_of_getElem? (i := 197) rfl)) (hw _ (List.mem_of_getElem? (i := 3) rfl)) (hw _ (List.mem_of_getElem? (i := 199) rfl)) (by decide) e120 f104 (argsL := [(.ref b25)]) (rest := []) (c_eqS l Z a0 hw b25 T96.heap) 0 (by decide) (by decide) (by decide) (by decide) (by rw [hml]; rfl) (lenOf o_pd29 rfl) rfl (Nat.le_of_eq rfl) (hb hby at_199) (n := 202) rfl ?_
    intro v122 T122 L122 X122 q122
    obtain ⟨rfl, e122, rfl⟩ := q122
    have N123 := Fr.app N121 (Fr.nil n0)
    show Goes _ _ p e below s _ _ _ (T122.setTop (mkF m 202 #[.val (.int p0), .val (.int p1), .val (.int p2), .val (.int p3), .val (.ref b1), .val (.ref b25), .val (.int (0 : Int32)), .val .null, .val (.ref (o_oc ((p2.toUInt32 >>> (2 : UInt32)).toInt32 &&& (3 : Int32)) x0 x1 x2 x3)), .val (.ref s1_52), .val (.ref b71), .val (.int (1 : Int32)), .val (.int (1 : Int32)), .unset, .unset] [(.int (1 : Int32))]))
    refine o_istore X122 hx (hb hby at_202) (Ls' := #[.val (.int p0), .val (.int p1), .val (.int p2), .val (.int p3), .val (.ref b1), .val (.ref b25), .val (.int (0 : Int32)), .val .null, .val (.ref (o_oc ((p2.toUInt32 >>> (2 : UInt32)).toInt32 &&& (3 : Int32)) x0 x1 x2 x3)), .val (.ref s1_52), .val (.ref b71), .val (.int (1 : Int32)), .val (.int (1 : Int32)), .val (.int (1 : Int32)), .unset]) rfl (n := 204) rfl ?_
    refine o_aload X122 hx (hb hby at_204) (v := (.ref b25)) rfl rfl (n := 206) rfl ?_
    refine o_aload X122 hx (hb hby at_206) (v := (.ref s1_52)) rfl rfl (n := 208) rfl ?_
    refine o_callS X122 hx hZ hown (hw _ (List.mem_of_getElem? (i := 203) rfl)) (hw _ (List.mem_of_getElem? (i := 204) rfl)) (hw _ (List.mem_of_getElem? (i := 53) rfl)) (hw _ (List.mem_of_getElem? (i := 205) rfl)) (by decide) e122 (argsL := [(.ref b25), (.ref s1_52)]) (rest := []) (c_flag l Z a0 hw b25 s1_52 x1 T96.heap n0 zz96 f99) 0 (by decide) (by decide) (by decide) (by decide) (by rw [hml]; rfl) (lenOf o_pd30 rfl) rfl (Nat.le_of_eq rfl) (hb hby at_208) (n := 211) rfl ?_
    intro v124 T124 L124 X124 q124
    obtain ⟨n1_124, rfl, Nq124, K124, sq124_n1, o124_0, o124_1⟩ := q124
    have N125 := Fr.app N123 Nq124
    have ne126 : b1 ≠ n1_124 := Nat.ne_of_lt (Nat.lt_of_lt_of_le f103.lt sq124_n1)
    have ne127 : b25 ≠ n1_124 := Nat.ne_of_lt (Nat.lt_of_lt_of_le f104.lt sq124_n1)
    have ne128 : n1_36 ≠ n1_124 := Nat.ne_of_lt (Nat.lt_of_lt_of_le f107.lt sq124_n1)
    have ne129 : s1_52 ≠ n1_124 := Nat.ne_of_lt (Nat.lt_of_lt_of_le f108.lt sq124_n1)
    have ne130 : n1_52 ≠ n1_124 := Nat.ne_of_lt (Nat.lt_of_lt_of_le f111.lt sq124_n1)
    have ne131 : b71 ≠ n1_124 := Nat.ne_of_lt (Nat.lt_of_lt_of_le o96_0.lt sq124_n1)
    have gg124_n1 : n0 ≤ n1_124 := Nat.le_trans zz96 sq124_n1
    have sz124_n1 : h0.size ≤ n1_124 := Nat.le_trans K117.1 sq124_n1
    have f132 := o_sta_keep f98 K124 all0
    have f133 := o_sta_keep f99 K124 all0
    have f134 := o_sta_keep f100 K124 all0
    have f135 := o_sta_keep f101 K124 all0
    have f136 := o_sta_keep f102 K124 all0
    have f137 := f103.keep K124 nin0
    have f138 := f104.keep K124
    have f139 := f105.keep K124 nin0
    have f140 := f106.keep K124 nin0
    have f141 := f107.keep K124 nin0
    have f142 := f108.keep K124
    have f143 := f109.keep K124 nin0
    have f144 := f110.keep K124 nin0
    have f145 := f111.keep K124 nin0
    have f146 := o96_0.keep K124
    have f147 := o96_1.keep K124 nin0
    have f148 := o96_2.keep K124 nin0
    have f149 := o96_3.keep K124 nin0
    have f150 := o96_4.keep K124 nin0
    have zz124 : n0 ≤ T124.heap.size := Nat.le_trans zz96 K124.1
    have K151 : Keep h0 T124.heap [] := K117.trans K124 all0
    show Goes _ _ p e below s _ _ _ (T124.setTop (mkF m 211 #[.val (.int p0), .val (.int p1), .val (.int p2), .val (.int p3), .val (.ref b1), .val (.ref b25), .val (.int (0 : Int32)), .val .null, .val (.ref (o_oc ((p2.toUInt32 >>> (2 : UInt32)).toInt32 &&& (3 : Int32)) x0 x1 x2 x3)), .val (.ref s1_52), .val (.ref b71), .val (.int (1 : Int32)), .val (.int (1 : Int32)), .val (.int (1 : Int32)), .unset] [(.ref n1_124)]))
    refine o_callV X124 hx hZ hown (hw _ (List.mem_of_getElem? (i := 71) rfl)) (hw _ (List.mem_of_getElem? (i := 72) rfl)) (hw _ (List.mem_of_getElem? (i := 74) rfl)) (hw _ (List.mem_of_getElem? (i := 73) rfl)) (hw _ (List.mem_of_getElem? (i := 53) rfl)) (hw _ (List.mem_of_getElem? (i := 75) rfl)) (by decide) (rfl : T124.heap = T124.heap) o124_0 (argsL := []) (rest := []) (c_isf1 l Z a0 hw n1_124 T124.heap o124_0 o124_1) 0 (by decide) (by decide) (by decide) (by decide) (by rw [hml]; rfl) (lenOf o_pd20 rfl) rfl (Nat.le_of_eq rfl) (hb hby at_211) (n := 214) rfl ?_
    intro v152 T152 L152 X152 q152
    obtain ⟨rfl, e152, rfl⟩ := q152
    have N153 := Fr.app N125 (Fr.nil n0)
    show Goes _ _ p e below s _ _ _ (T152.setTop (mkF m 214 #[.val (.int p0), .val (.int p1), .val (.int p2), .val (.int p3), .val (.ref b1), .val (.ref b25), .val (.int (0 : Int32)), .val .null, .val (.ref (o_oc ((p2.toUInt32 >>> (2 : UInt32)).toInt32 &&& (3 : Int32)) x0 x1 x2 x3)), .val (.ref s1_52), .val (.ref b71), .val (.int (1 : Int32)), .val (.int (1 : Int32)), .val (.int (1 : Int32)), .unset] [(.int (1 : Int32))]))
    refine o_istore X152 hx (hb hby at_214) (Ls' := #[.val (.int p0), .val (.int p1), .val (.int p2), .val (.int p3), .val (.ref b1), .val (.ref b25), .val (.int (0 : Int32)), .val .null, .val (.ref (o_oc ((p2.toUInt32 >>> (2 : UInt32)).toInt32 &&& (3 : Int32)) x0 x1 x2 x3)), .val (.ref s1_52), .val (.ref b71), .val (.int (1 : Int32)), .val (.int (1 : Int32)), .val (.int (1 : Int32)), .val (.int (1 : Int32))]) rfl (n := 216) rfl ?_
    refine o_iload X152 hx (hb hby at_216) (v := (1 : Int32)) rfl (n := 218) rfl ?_
    refine o_iload X152 hx (hb hby at_218) (v := (1 : Int32)) rfl (n := 220) rfl ?_
    refine o_icmpN X152 hx (hb hby at_220) (XT.ii_ne_f (by decide)) (n := 223) rfl ?_
    refine o_iload X152 hx (hb hby at_223) (v := (1 : Int32)) rfl (n := 225) rfl ?_
    refine o_iload X152 hx (hb hby at_225) (v := (1 : Int32)) rfl (n := 227) rfl ?_
    refine o_icmpN X152 hx (hb hby at_227) (XT.ii_ne_f (by decide)) (n := 230) rfl ?_
    refine o_iload X152 hx (hb hby at_230) (v := (1 : Int32)) rfl (n := 232) rfl ?_
    refine o_ifN X152 hx (hb hby at_232) (XT.i0_eq_f (by decide)) (n := 235) rfl ?_
    refine o_iconst X152 hx (hb hby at_235) (v := (1 : Int32)) rfl (n := 236) rfl ?_
    refine o_goto X152 hx (hb hby at_236) (by decide) (n := 240) (by decide) ?_
    exact o_nreturnW X152 hx S0 (Nat.le_trans (Nat.le_trans (Nat.le_trans (Nat.le_trans (Nat.le_trans (Nat.le_trans (Nat.le_trans (Nat.le_trans (Nat.le_trans (Nat.zero_le _) E1.1) (Nat.le_of_eq W9.size.symm)) (Nat.le_of_eq W17.size.symm)) E25.1) K36.1) K52.1) E71.1) K96.1) K124.1) hret hlk (t := .boolean) (by simp) (hb hby at_240) (by decide) (by decide) e152 (fun _ _ => trivial) ⟨rfl, N153⟩
  · refine o_iconst X0 hx (hb hby at_0) (v := (2 : Int32)) rfl (n := 1) rfl ?_
    refine o_newarray X0 hx hZ (aty := .char) (hw _ (List.mem_of_getElem? (i := 0) rfl)) e0 (hb hby at_1) (by decide) 2 (by decide) (by decide) (by decide) (by decide) (n := 3) rfl ?_
    intro T154 h154 b154 k154 X154 e154 g154 E154 V154
    have gg154 : n0 ≤ b154 := Nat.le_trans Z0 (Nat.le_of_eq g154.symm)
    have zz154 : n0 ≤ h154.size := Nat.le_trans Z0 E154.1
    have sz154 : h0.size ≤ b154 := Nat.le_trans (Keep.refl h0 []).1 (Nat.le_of_eq g154.symm)
    have f155 := pS_REQUIRED.ext E154
    have f156 := pS_OPTIONAL.ext E154
    have f157 := pS_REPEATED.ext E154
    have f158 := pS_OPTIONAL_REPEATED.ext E154
    have f159 := pS_COMPACT_STRINGS.ext E154
    have K160 : Keep h0 h154 [] := (Keep.refl h0 []).ext E154
    have f161 : Arv Z h154 b154 k154 .char (2 : Int32) [(.int (0 : Int32)), (.int (0 : Int32))] (.int (0 : Int32)) := V154.pad (pad_rep [] (.int (0 : Int32)) 2)
    refine o_astore X154 hx (hb hby at_3) rfl (Ls' := #[.val (.int p0), .val (.int p1), .val (.int p2), .val (.int p3), .val (.ref b154), .unset, .unset, .unset, .unset, .unset, .unset, .unset, .unset, .unset, .unset]) rfl (n := 5) rfl ?_
    refine o_aload X154 hx (hb hby at_5) (v := (.ref b154)) rfl rfl (n := 7) rfl ?_
    refine o_iconst X154 hx (hb hby at_7) (v := (0 : Int32)) rfl (n := 8) rfl ?_
    refine o_iloadN X154 hx (hb hby at_8) (v := p0) rfl (n := 9) rfl ?_
    refine o_sipush X154 hx (hb hby at_9) (v := (255 : Int32)) rfl (n := 12) rfl ?_
    refine o_iand X154 hx (hb hby at_12) (v := (p0 &&& (255 : Int32))) rfl (n := 13) rfl ?_
    refine o_i2c X154 hx (hb hby at_13) (v := ca) hca (n := 14) rfl ?_
    refine o_castore X154 hx hZ e154 f161 (0) (by decide) (by decide) (Nat.le_of_ble_eq_true rfl) (w := (.int ca)) (congrArg Value.int nca) (vs' := [(.int ca), (.int (0 : Int32))]) rfl (o_fitC _) (hb hby at_14) (n := 15) rfl ?_
    intro T162 h162 X162 e162 W162 V162
    have f163 := f155.wr W162
    have f164 := f156.wr W162
    have f165 := f157.wr W162
    have f166 := f158.wr W162
    have f167 := f159.wr W162
    have zz162 : n0 ≤ h162.size := Nat.le_trans zz154 (Nat.le_of_eq W162.size.symm)
    have N168 := Fr.snoc X162 N0 gg154
    have K169 : Keep h0 h162 [] := K160.wr W162 (Or.inr sz154)
    refine o_aload X162 hx (hb hby at_15) (v := (.ref b154)) rfl rfl (n := 17) rfl ?_
    refine o_iconst X162 hx (hb hby at_17) (v := (1 : Int32)) rfl (n := 18) rfl ?_
    refine o_iloadN X162 hx (hb hby at_18) (v := p0) rfl (n := 19) rfl ?_
    refine o_bipush X162 hx (hb hby at_19) (v := (8 : Int32)) rfl (n := 21) rfl ?_
    refine o_iushr X162 hx (hb hby at_21) (v := (p0.toUInt32 >>> (8 : UInt32)).toInt32) (congrArg (fun q : UInt32 => (p0.toUInt32 >>> q).toInt32) (show ((8 : Int32) &&& 31).toUInt32 = 8 by decide)) (n := 22) rfl ?_
    refine o_sipush X162 hx (hb hby at_22) (v := (255 : Int32)) rfl (n := 25) rfl ?_
    refine o_iand X162 hx (hb hby at_25) (v := ((p0.toUInt32 >>> (8 : UInt32)).toInt32 &&& (255 : Int32))) rfl (n := 26) rfl ?_
    refine o_i2c X162 hx (hb hby at_26) (v := cb) hcb (n := 27) rfl ?_
    refine o_castore X162 hx hZ e162 V162 (1) (by decide) (by decide) (Nat.le_of_ble_eq_true rfl) (w := (.int cb)) (congrArg Value.int ncb) (vs' := [(.int ca), (.int cb)]) rfl (o_fitC _) (hb hby at_27) (n := 28) rfl ?_
    intro T170 h170 X170 e170 W170 V170
    have f171 := f163.wr W170
    have f172 := f164.wr W170
    have f173 := f165.wr W170
    have f174 := f166.wr W170
    have f175 := f167.wr W170
    have zz170 : n0 ≤ h170.size := Nat.le_trans zz162 (Nat.le_of_eq W170.size.symm)
    have N176 := Fr.snoc X170 N168 gg154
    have K177 : Keep h0 h170 [] := K169.wr W170 (Or.inr sz154)
    refine o_new X170 hx hZ hown (hw _ (List.mem_of_getElem? (i := 1) rfl)) (hw _ (List.mem_of_getElem? (i := 2) rfl)) (hw _ (List.mem_of_getElem? (i := 3) rfl)) e170 (hb hby at_28) (by decide) (by decide) (n := 31) rfl ?_
    intro T178 h178 b178 X178 e178 g178 E178 A178 D178
    have ne179 : b154 ≠ b178 := Nat.ne_of_lt (Nat.lt_of_lt_of_eq V170.lt g178.symm)
    have gg178 : n0 ≤ b178 := Nat.le_trans zz170 (Nat.le_of_eq g178.symm)
    have zz178 : n0 ≤ h178.size := Nat.le_trans zz170 E178.1
    have sz178 : h0.size ≤ b178 := Nat.le_trans K177.1 (Nat.le_of_eq g178.symm)
    have f180 := f171.ext E178
    have f181 := f172.ext E178
    have f182 := f173.ext E178
    have f183 := f174.ext E178
    have f184 := f175.ext E178
    have f185 := V170.ext E178
    have K186 : Keep h0 h178 [] := K177.ext E178
    have f187 : Fld Z h178 b178 "java/lang/String" "coder" "B" (.int (0 : Int32)) := D178 (Or.inr (hw _ (List.mem_of_getElem? (i := 27) rfl))) (ty := .byte) (by decide)
    have f188 : Fld Z h178 b178 "java/lang/String" "value" "[B" .null := D178 (Or.inr (hw _ (List.mem_of_getElem? (i := 29) rfl))) (ty := (.array .byte)) (by decide)
    refine o_dup X178 hx (hb hby at_31) rfl (n := 32) rfl ?_
    refine o_aload X178 hx (hb hby at_32) (v := (.ref b154)) rfl rfl (n := 34) rfl ?_
    refine o_callN X178 hx hZ rfl hown (hw _ (List.mem_of_getElem? (i := 4) rfl)) (hw _ (List.mem_of_getElem? (i := 5) rfl)) (hw _ (List.mem_of_getElem? (i := 3) rfl)) (hw _ (List.mem_of_getElem? (i := 6) rfl)) (by decide) e178 (a := b178) (argsL := [(.ref b154)]) (rest := [(.ref b178)]) (c_in1 l Z a0 hw b178 b154 k154 ca cb cs h178 n0 zz178 gg178 A178 f187 f188 f185 (Ne.symm ne179) f184 qca qcb hcs) 1 (by decide) (by decide) (by decide) (by decide) (by rw [hml]; rfl) (lenOf o_pd26 rfl) rfl (Nat.le_of_eq rfl) (hb hby at_34) (n := 37) rfl ?_
    intro v189 T189 L189 X189 q189
    obtain ⟨n1_189, kn_189, rfl, Nq189, K189, sq189_n1, o189_0, o189_1, o189_2, o189_3⟩ := q189
    have N190 := Fr.app N176 Nq189
    have ne191 : b154 ≠ n1_189 := Nat.ne_of_lt (Nat.lt_of_lt_of_le f185.lt sq189_n1)
    have ne192 : b178 ≠ n1_189 := Nat.ne_of_lt (Nat.lt_of_lt_of_le A178.lt sq189_n1)
    have gg189_n1 : n0 ≤ n1_189 := Nat.le_trans zz178 sq189_n1
    have sz189_n1 : h0.size ≤ n1_189 := Nat.le_trans K186.1 sq189_n1
    have f193 := o_sta_keep f180 K189 (allS (P := fun a => ∀ cl : Cell, h178[a]? = some cl → cl.vm.isStatics = false) (o_exa_ns A178) all0)
    have f194 := o_sta_keep f181 K189 (allS (P := fun a => ∀ cl : Cell, h178[a]? = some cl → cl.vm.isStatics = false) (o_exa_ns A178) all0)
    have f195 := o_sta_keep f182 K189 (allS (P := fun a => ∀ cl : Cell, h178[a]? = some cl → cl.vm.isStatics = false) (o_exa_ns A178) all0)
    have f196 := o_sta_keep f183 K189 (allS (P := fun a => ∀ cl : Cell, h178[a]? = some cl → cl.vm.isStatics = false) (o_exa_ns A178) all0)
    have f197 := o_sta_keep f184 K189 (allS (P := fun a => ∀ cl : Cell, h178[a]? = some cl → cl.vm.isStatics = false) (o_exa_ns A178) all0)
    have f198 := f185.keep K189 (ninS ne179 nin0)
    have f199 := A178.keep K189
    have zz189 : n0 ≤ T189.heap.size := Nat.le_trans zz178 K189.1
    have K202 : Keep h0 T189.heap [] := K186.trans K189 (allS (P := fun x => x ∈ [] ∨ h0.size ≤ x) (Or.inr sz178) all0)
    show Goes _ _ p e below s _ _ _ (T189.setTop (mkF m 37 #[.val (.int p0), .val (.int p1), .val (.int p2), .val (.int p3), .val (.ref b154), .unset, .unset, .unset, .unset, .unset, .unset, .unset, .unset, .unset, .unset] [(.ref b178)]))
    refine o_astore X189 hx (hb hby at_37) rfl (Ls' := #[.val (.int p0), .val (.int p1), .val (.int p2), .val (.int p3), .val (.ref b154), .val (.ref b178), .unset, .unset, .unset, .unset, .unset, .unset, .unset, .unset, .unset]) rfl (n := 39) rfl ?_
    refine o_iloadN X189 hx (hb hby at_39) (v := p2) rfl (n := 40) rfl ?_
    refine o_iconst X189 hx (hb hby at_40) (v := (3 : Int32)) rfl (n := 41) rfl ?_
    refine o_iand X189 hx (hb hby at_41) (v := (1 : Int32)) q (n := 42) rfl ?_
    refine o_istore X189 hx (hb hby at_42) (Ls' := #[.val (.int p0), .val (.int p1), .val (.int p2), .val (.int p3), .val (.ref b154), .val (.ref b178), .val (.int (1 : Int32)), .unset, .unset, .unset, .unset, .unset, .unset, .unset, .unset]) rfl (n := 44) rfl ?_
    refine o_iload X189 hx (hb hby at_44) (v := (1 : Int32)) rfl (n := 46) rfl ?_
    refine o_ifY X189 hx (hb hby at_46) (XT.i0_ne_t (by decide)) (by decide) (n := 55) (by decide) ?_
    refine o_iload X189 hx (hb hby at_55) (v := (1 : Int32)) rfl (n := 57) rfl ?_
    refine o_iconst X189 hx (hb hby at_57) (v := (1 : Int32)) rfl (n := 58) rfl ?_
    refine o_icmpN X189 hx (hb hby at_58) (XT.ii_ne_f (by decide)) (n := 61) rfl ?_
    refine o_new X189 hx hZ hown (hw _ (List.mem_of_getElem? (i := 1) rfl)) (hw _ (List.mem_of_getElem? (i := 2) rfl)) (hw _ (List.mem_of_getElem? (i := 3) rfl)) (rfl : T189.heap = T189.heap) (hb hby at_61) (by decide) (by decide) (n := 64) rfl ?_
    intro T203 h203 b203 X203 e203 g203 E203 A203 D203
    have ne204 : b154 ≠ b203 := Nat.ne_of_lt (Nat.lt_of_lt_of_eq f198.lt g203.symm)
    have ne205 : b178 ≠ b203 := Nat.ne_of_lt (Nat.lt_of_lt_of_eq o189_0.lt g203.symm)
    have ne206 : n1_189 ≠ b203 := Nat.ne_of_lt (Nat.lt_of_lt_of_eq o189_3.lt g203.symm)
    have gg203 : n0 ≤ b203 := Nat.le_trans zz189 (Nat.le_of_eq g203.symm)
    have zz203 : n0 ≤ h203.size := Nat.le_trans zz189 E203.1
    have sz203 : h0.size ≤ b203 := Nat.le_trans K202.1 (Nat.le_of_eq g203.symm)
    have f207 := f193.ext E203
    have f208 := f194.ext E203
    have f209 := f195.ext E203
    have f210 := f196.ext E203
    have f211 := f197.ext E203
    have f212 := f198.ext E203
    have f213 := o189_0.ext E203
    have f214 := o189_1.ext E203
    have f215 := o189_2.ext E203
    have f216 := o189_3.ext E203
    have K217 : Keep h0 h203 [] := K202.ext E203
    have f218 : Fld Z h203 b203 "java/lang/String" "coder" "B" (.int (0 : Int32)) := D203 (Or.inr (hw _ (List.mem_of_getElem? (i := 27) rfl))) (ty := .byte) (by decide)
    have f219 : Fld Z h203 b203 "java/lang/String" "value" "[B" .null := D203 (Or.inr (hw _ (List.mem_of_getElem? (i := 29) rfl))) (ty := (.array .byte)) (by decide)
    refine o_dup X203 hx (hb hby at_64) rfl (n := 65) rfl ?_
    refine o_iconst X203 hx (hb hby at_65) (v := (0 : Int32)) rfl (n := 66) rfl ?_
    refine o_newarray X203 hx hZ (aty := .char) (hw _ (List.mem_of_getElem? (i := 0) rfl)) e203 (hb hby at_66) (by decide) 0 (by decide) (by decide) (by decide) (by decide) (n := 68) rfl ?_
    intro T220 h220 b220 k220 X220 e220 g220 E220 V220
    have ne221 : b154 ≠ b220 := Nat.ne_of_lt (Nat.lt_of_lt_of_eq f212.lt g220.symm)
    have ne222 : b178 ≠ b220 := Nat.ne_of_lt (Nat.lt_of_lt_of_eq f213.lt g220.symm)
    have ne223 : n1_189 ≠ b220 := Nat.ne_of_lt (Nat.lt_of_lt_of_eq f216.lt g220.symm)
    have ne224 : b203 ≠ b220 := Nat.ne_of_lt (Nat.lt_of_lt_of_eq A203.lt g220.symm)
    have gg220 : n0 ≤ b220 := Nat.le_trans zz203 (Nat.le_of_eq g220.symm)
    have zz220 : n0 ≤ h220.size := Nat.le_trans zz203 E220.1
    have sz220 : h0.size ≤ b220 := Nat.le_trans K217.1 (Nat.le_of_eq g220.symm)
    have f225 := f207.ext E220
    have f226 := f208.ext E220
    have f227 := f209.ext E220
    have f228 := f210.ext E220
    have f229 := f211.ext E220
    have f230 := f212.ext E220
    have f231 := f213.ext E220
    have f232 := f214.ext E220
    have f233 := f215.ext E220
    have f234 := f216.ext E220
    have f235 := A203.ext E220
    have f236 := f218.ext E220
    have f237 := f219.ext E220
    have K238 : Keep h0 h220 [] := K217.ext E220
    have f239 : Arv Z h220 b220 k220 .char (0 : Int32) [] (.int (0 : Int32)) := V220.pad (pad_rep [] (.int (0 : Int32)) 0)
    refine o_callNW X220 hx hZ rfl hown (hw _ (List.mem_of_getElem? (i := 4) rfl)) (hw _ (List.mem_of_getElem? (i := 5) rfl)) (hw _ (List.mem_of_getElem? (i := 3) rfl)) (hw _ (List.mem_of_getElem? (i := 6) rfl)) (by decide) e220 (a := b203) (argsL := [(.ref b220)]) (rest := [(.ref b203)]) IB0 (c_in1E l Z a0 hw b203 b220 k220 h220 n0 zz220 gg203 f235 f236 f237 (fun b cl q => K238.2.1 b cl (hZ0 ▸ q) nin0) hheld hcw f239 ne224) 1 (by decide) (by decide) (by decide) (by decide) (by rw [hml]; rfl) (lenOf o_pd26 rfl) rfl (Nat.le_of_eq rfl) (hb hby at_68) (n := 71) rfl ?_
    intro v240 T240 L240 X240 S240 hg240 hZ hown IB240 q240
    have X240 : Stand p l e _ (s.setVm T240.vm) m _ below meth c T240 _ _ _ := X240
    have S240 := State.Since.trans S0 S240 (Nat.le_trans (Nat.le_trans (Nat.le_trans (Nat.le_trans (Nat.le_trans (Nat.le_trans (Nat.le_trans (Nat.le_trans (Nat.zero_le _) E154.1) (Nat.le_of_eq W162.size.symm)) (Nat.le_of_eq W170.size.symm)) E178.1) K189.1) E203.1) E220.1) hg240)
    have hZ : Z.Warmed39 (s.setVm T240.vm).vm := hZ
    have hown : (s.setVm T240.vm).vm.findClass "com/example/estim365/estim365/cli/OptionIsFlagPinLaw" = some m.cls := hown
    obtain ⟨n1_240, kn_240, rfl, Nq240, K240, nq240, o240_0, o240_1, o240_2, o240_3⟩ := q240
    have N241 := Fr.app N190 Nq240
    have f242 := o_sta_keep f225 K240 (allS (P := fun a => ∀ cl : Cell, h220[a]? = some cl → cl.vm.isStatics = false) (o_exa_ns f235) all0)
    have f243 := o_sta_keep f226 K240 (allS (P := fun a => ∀ cl : Cell, h220[a]? = some cl → cl.vm.isStatics = false) (o_exa_ns f235) all0)
    have f244 := o_sta_keep f227 K240 (allS (P := fun a => ∀ cl : Cell, h220[a]? = some cl → cl.vm.isStatics = false) (o_exa_ns f235) all0)
    have f245 := o_sta_keep f228 K240 (allS (P := fun a => ∀ cl : Cell, h220[a]? = some cl → cl.vm.isStatics = false) (o_exa_ns f235) all0)
    have f246 := o_sta_keep f229 K240 (allS (P := fun a => ∀ cl : Cell, h220[a]? = some cl → cl.vm.isStatics = false) (o_exa_ns f235) all0)
    have f247 := f230.keep K240 (ninS ne204 nin0)
    have f248 := f231.keep K240
    have f249 := f232.keep K240 (ninS ne205 nin0)
    have f250 := f233.keep K240 (ninS ne205 nin0)
    have f251 := f234.keep K240 (ninS ne206 nin0)
    have f252 := f235.keep K240
    have f255 := f239.keep K240 (ninS (Ne.symm ne224) nin0)
    have zz240 : n0 ≤ T240.heap.size := Nat.le_trans zz220 K240.1
    have K256 : Keep h0 T240.heap [] := K238.trans K240 (allS (P := fun x => x ∈ [] ∨ h0.size ≤ x) (Or.inr sz203) all0)
    show Goes _ _ p e below s _ _ _ (T240.setTop (mkF m 71 #[.val (.int p0), .val (.int p1), .val (.int p2), .val (.int p3), .val (.ref b154), .val (.ref b178), .val (.int (1 : Int32)), .unset, .unset, .unset, .unset, .unset, .unset, .unset, .unset] [(.ref b203)]))
    refine o_astore X240 hx (hb hby at_71) rfl (Ls' := #[.val (.int p0), .val (.int p1), .val (.int p2), .val (.int p3), .val (.ref b154), .val (.ref b178), .val (.int (1 : Int32)), .val (.ref b203), .unset, .unset, .unset, .unset, .unset, .unset, .unset]) rfl (n := 73) rfl ?_
    refine o_goto X240 hx (hb hby at_73) (by decide) (n := 135) (by decide) ?_
    refine o_iloadN X240 hx (hb hby at_135) (v := p2) rfl (n := 136) rfl ?_
    refine o_iconst X240 hx (hb hby at_136) (v := (2 : Int32)) rfl (n := 137) rfl ?_
    refine o_iushr X240 hx (hb hby at_137) (v := (p2.toUInt32 >>> (2 : UInt32)).toInt32) (congrArg (fun q : UInt32 => (p2.toUInt32 >>> q).toInt32) (show ((2 : Int32) &&& 31).toUInt32 = 2 by decide)) (n := 138) rfl ?_
    refine o_iconst X240 hx (hb hby at_138) (v := (3 : Int32)) rfl (n := 139) rfl ?_
    refine o_iand X240 hx (hb hby at_139) (v := ((p2.toUInt32 >>> (2 : UInt32)).toInt32 &&& (3 : Int32))) rfl (n := 140) rfl ?_
    refine o_callS X240 hx hZ hown (hw _ (List.mem_of_getElem? (i := 44) rfl)) (hw _ (List.mem_of_getElem? (i := 45) rfl)) (hw _ (List.mem_of_getElem? (i := 46) rfl)) (hw _ (List.mem_of_getElem? (i := 47) rfl)) (by decide) (rfl : T240.heap = T240.heap) (argsL := [(.int ((p2.toUInt32 >>> (2 : UInt32)).toInt32 &&& (3 : Int32)))]) (rest := []) (c_occ l Z a0 hw ((p2.toUInt32 >>> (2 : UInt32)).toInt32 &&& (3 : Int32)) x0 x1 x2 x3 T240.heap f242 f243 f244 f245) 0 (by decide) (by decide) (by decide) (by decide) (by rw [hml]; rfl) (lenOf o_pd27 rfl) rfl (Nat.le_of_eq rfl) (hb hby at_140) (n := 143) rfl ?_
    intro v257 T257 L257 X257 q257
    obtain ⟨rfl, e257, rfl⟩ := q257
    have N258 := Fr.app N241 (Fr.nil n0)
    show Goes _ _ p e below s _ _ _ (T257.setTop (mkF m 143 #[.val (.int p0), .val (.int p1), .val (.int p2), .val (.int p3), .val (.ref b154), .val (.ref b178), .val (.int (1 : Int32)), .val (.ref b203), .unset, .unset, .unset, .unset, .unset, .unset, .unset] [(.ref (o_oc ((p2.toUInt32 >>> (2 : UInt32)).toInt32 &&& (3 : Int32)) x0 x1 x2 x3))]))
    refine o_astore X257 hx (hb hby at_143) rfl (Ls' := #[.val (.int p0), .val (.int p1), .val (.int p2), .val (.int p3), .val (.ref b154), .val (.ref b178), .val (.int (1 : Int32)), .val (.ref b203), .val (.ref (o_oc ((p2.toUInt32 >>> (2 : UInt32)).toInt32 &&& (3 : Int32)) x0 x1 x2 x3)), .unset, .unset, .unset, .unset, .unset, .unset]) rfl (n := 145) rfl ?_
    refine o_iloadN X257 hx (hb hby at_145) (v := p3) rfl (n := 146) rfl ?_
    refine o_sipush X257 hx (hb hby at_146) (v := (255 : Int32)) rfl (n := 149) rfl ?_
    refine o_iand X257 hx (hb hby at_149) (v := (p3 &&& (255 : Int32))) rfl (n := 150) rfl ?_
    refine o_i2c X257 hx (hb hby at_150) (v := ce) hce (n := 151) rfl ?_
    refine o_callS X257 hx hZ hown (hw _ (List.mem_of_getElem? (i := 30) rfl)) (hw _ (List.mem_of_getElem? (i := 31) rfl)) (hw _ (List.mem_of_getElem? (i := 3) rfl)) (hw _ (List.mem_of_getElem? (i := 32) rfl)) (by decide) e257 (argsL := [(.int ce)]) (rest := []) (c_val l Z a0 hw ce cs T240.heap n0 zz240 f246 qce hcs) 0 (by decide) (by decide) (by decide) (by decide) (by rw [hml]; rfl) (lenOf o_pd28 rfl) rfl (Nat.le_of_eq rfl) (hb hby at_151) (n := 154) rfl ?_
    intro v259 T259 L259 X259 q259
    obtain ⟨s1_259, n1_259, kn_259, rfl, Nq259, K259, sq259_s1, sq259_n1, nq259_s1_n1, o259_0, o259_1, o259_2, o259_3⟩ := q259
    have N260 := Fr.app N258 Nq259
    have ne261 : b154 ≠ s1_259 := Nat.ne_of_lt (Nat.lt_of_lt_of_le f247.lt sq259_s1)
    have ne262 : b178 ≠ s1_259 := Nat.ne_of_lt (Nat.lt_of_lt_of_le f248.lt sq259_s1)
    have ne263 : n1_189 ≠ s1_259 := Nat.ne_of_lt (Nat.lt_of_lt_of_le f251.lt sq259_s1)
    have ne264 : b203 ≠ s1_259 := Nat.ne_of_lt (Nat.lt_of_lt_of_le o240_0.lt sq259_s1)
    have ne265 : b220 ≠ s1_259 := Nat.ne_of_lt (Nat.lt_of_lt_of_le f255.lt sq259_s1)
    have ne266 : n1_240 ≠ s1_259 := Nat.ne_of_lt (Nat.lt_of_lt_of_le o240_3.lt sq259_s1)
    have gg259_s1 : n0 ≤ s1_259 := Nat.le_trans zz240 sq259_s1
    have sz259_s1 : h0.size ≤ s1_259 := Nat.le_trans K256.1 sq259_s1
    have ne267 : b154 ≠ n1_259 := Nat.ne_of_lt (Nat.lt_of_lt_of_le f247.lt sq259_n1)
    have ne268 : b178 ≠ n1_259 := Nat.ne_of_lt (Nat.lt_of_lt_of_le f248.lt sq259_n1)
    have ne269 : n1_189 ≠ n1_259 := Nat.ne_of_lt (Nat.lt_of_lt_of_le f251.lt sq259_n1)
    have ne270 : b203 ≠ n1_259 := Nat.ne_of_lt (Nat.lt_of_lt_of_le o240_0.lt sq259_n1)
    have ne271 : b220 ≠ n1_259 := Nat.ne_of_lt (Nat.lt_of_lt_of_le f255.lt sq259_n1)
    have ne272 : n1_240 ≠ n1_259 := Nat.ne_of_lt (Nat.lt_of_lt_of_le o240_3.lt sq259_n1)
    have gg259_n1 : n0 ≤ n1_259 := Nat.le_trans zz240 sq259_n1
    have sz259_n1 : h0.size ≤ n1_259 := Nat.le_trans K256.1 sq259_n1
    have f273 := o_sta_keep f242 K259 all0
    have f274 := o_sta_keep f243 K259 all0
    have f275 := o_sta_keep f244 K259 all0
    have f276 := o_sta_keep f245 K259 all0
    have f277 := o_sta_keep f246 K259 all0
    have f278 := f247.keep K259 nin0
    have f279 := f248.keep K259
    have f280 := f249.keep K259 nin0
    have f281 := f250.keep K259 nin0
    have f282 := f251.keep K259 nin0
    have f283 := o240_0.keep K259
    have f284 := f255.keep K259 nin0
    have f285 := o240_1.keep K259 nin0
    have f286 := o240_2.keep K259 nin0
    have f287 := o240_3.keep K259 nin0
    have zz259 : n0 ≤ T259.heap.size := Nat.le_trans zz240 K259.1
    have K288 : Keep h0 T259.heap [] := K256.trans K259 all0
    show Goes _ _ p e below s _ _ _ (T259.setTop (mkF m 154 #[.val (.int p0), .val (.int p1), .val (.int p2), .val (.int p3), .val (.ref b154), .val (.ref b178), .val (.int (1 : Int32)), .val (.ref b203), .val (.ref (o_oc ((p2.toUInt32 >>> (2 : UInt32)).toInt32 &&& (3 : Int32)) x0 x1 x2 x3)), .unset, .unset, .unset, .unset, .unset, .unset] [(.ref s1_259)]))
    refine o_astore X259 hx (hb hby at_154) rfl (Ls' := #[.val (.int p0), .val (.int p1), .val (.int p2), .val (.int p3), .val (.ref b154), .val (.ref b178), .val (.int (1 : Int32)), .val (.ref b203), .val (.ref (o_oc ((p2.toUInt32 >>> (2 : UInt32)).toInt32 &&& (3 : Int32)) x0 x1 x2 x3)), .val (.ref s1_259), .unset, .unset, .unset, .unset, .unset]) rfl (n := 156) rfl ?_
    refine o_new X259 hx hZ hown (hw _ (List.mem_of_getElem? (i := 51) rfl)) (hw _ (List.mem_of_getElem? (i := 52) rfl)) (hw _ (List.mem_of_getElem? (i := 53) rfl)) (rfl : T259.heap = T259.heap) (hb hby at_156) (by decide) (by decide) (n := 159) rfl ?_
    intro T289 h289 b289 X289 e289 g289 E289 A289 D289
    have ne290 : b154 ≠ b289 := Nat.ne_of_lt (Nat.lt_of_lt_of_eq f278.lt g289.symm)
    have ne291 : b178 ≠ b289 := Nat.ne_of_lt (Nat.lt_of_lt_of_eq f279.lt g289.symm)
    have ne292 : n1_189 ≠ b289 := Nat.ne_of_lt (Nat.lt_of_lt_of_eq f282.lt g289.symm)
    have ne293 : b203 ≠ b289 := Nat.ne_of_lt (Nat.lt_of_lt_of_eq f283.lt g289.symm)
    have ne294 : b220 ≠ b289 := Nat.ne_of_lt (Nat.lt_of_lt_of_eq f284.lt g289.symm)
    have ne295 : n1_240 ≠ b289 := Nat.ne_of_lt (Nat.lt_of_lt_of_eq f287.lt g289.symm)
    have ne296 : s1_259 ≠ b289 := Nat.ne_of_lt (Nat.lt_of_lt_of_eq o259_0.lt g289.symm)
    have ne297 : n1_259 ≠ b289 := Nat.ne_of_lt (Nat.lt_of_lt_of_eq o259_3.lt g289.symm)
    have gg289 : n0 ≤ b289 := Nat.le_trans zz259 (Nat.le_of_eq g289.symm)
    have zz289 : n0 ≤ h289.size := Nat.le_trans zz259 E289.1
    have sz289 : h0.size ≤ b289 := Nat.le_trans K288.1 (Nat.le_of_eq g289.symm)
    have f298 := f273.ext E289
    have f299 := f274.ext E289
    have f300 := f275.ext E289
    have f301 := f276.ext E289
    have f302 := f277.ext E289
    have f303 := f278.ext E289
    have f304 := f279.ext E289
    have f305 := f280.ext E289
    have f306 := f281.ext E289
    have f307 := f282.ext E289
    have f308 := f283.ext E289
    have f309 := f284.ext E289
    have f310 := f285.ext E289
    have f311 := f286.ext E289
    have f312 := f287.ext E289
    have f313 := o259_0.ext E289
    have f314 := o259_1.ext E289
    have f315 := o259_2.ext E289
    have f316 := o259_3.ext E289
    have K317 : Keep h0 h289 [] := K288.ext E289
    have f318 : Fld Z h289 b289 "com/example/estim365/estim365/cli/Option" "name" "Ljava/lang/String;" .null := D289 (Or.inr (hw _ (List.mem_of_getElem? (i := 64) rfl))) (ty := (.object "java/lang/String")) (by decide)
    have f319 : Fld Z h289 b289 "com/example/estim365/estim365/cli/Option" "value" "Ljava/lang/String;" .null := D289 (Or.inr (hw _ (List.mem_of_getElem? (i := 66) rfl))) (ty := (.object "java/lang/String")) (by decide)
    have f320 : Fld Z h289 b289 "com/example/estim365/estim365/cli/Option" "occurrence" "Lcom/example/estim365/estim365/cli/Option$Occurrence;" .null := D289 (Or.inr (hw _ (List.mem_of_getElem? (i := 68) rfl))) (ty := (.object "com/example/estim365/estim365/cli/Option$Occurrence")) (by decide)
    have f321 : Fld Z h289 b289 "com/example/estim365/estim365/cli/Option" "description" "Ljava/lang/String;" .null := D289 (Or.inr (hw _ (List.mem_of_getElem? (i := 70) rfl))) (ty := (.object "java/lang/String")) (by decide)
    refine o_dup X289 hx (hb hby at_159) rfl (n := 160) rfl ?_
    refine o_aload X289 hx (hb hby at_160) (v := (.ref b178)) rfl rfl (n := 162) rfl ?_
    refine o_aload X289 hx (hb hby at_162) (v := (.ref b203)) rfl rfl (n := 164) rfl ?_
    refine o_aload X289 hx (hb hby at_164) (v := (.ref (o_oc ((p2.toUInt32 >>> (2 : UInt32)).toInt32 &&& (3 : Int32)) x0 x1 x2 x3))) rfl rfl (n := 166) rfl ?_
    refine o_aload X289 hx (hb hby at_166) (v := (.ref s1_259)) rfl rfl (n := 168) rfl ?_
    refine o_callN X289 hx hZ rfl hown (hw _ (List.mem_of_getElem? (i := 54) rfl)) (hw _ (List.mem_of_getElem? (i := 55) rfl)) (hw _ (List.mem_of_getElem? (i := 53) rfl)) (hw _ (List.mem_of_getElem? (i := 56) rfl)) (by decide) e289 (a := b289) (argsL := [(.ref b178), (.ref b203), (.ref (o_oc ((p2.toUInt32 >>> (2 : UInt32)).toInt32 &&& (3 : Int32)) x0 x1 x2 x3)), (.ref s1_259)]) (rest := [(.ref b289)]) (c_opi0 l Z a0 hw b289 b178 b203 (o_oc ((p2.toUInt32 >>> (2 : UInt32)).toInt32 &&& (3 : Int32)) x0 x1 x2 x3) s1_259 h289 n0 zz289 gg289 A289 f318 f319 f320 f321) 1 (by decide) (by decide) (by decide) (by decide) (by rw [hml]; rfl) (lenOf o_pd8 rfl) rfl (Nat.le_of_eq rfl) (hb hby at_168) (n := 171) rfl ?_
    intro v322 T322 L322 X322 q322
    obtain ⟨rfl, Nq322, K322, o322_0, o322_1, o322_2, o322_3, o322_4⟩ := q322
    have N323 := Fr.app N260 Nq322
    have f324 := o_sta_keep f298 K322 (allS (P := fun a => ∀ cl : Cell, h289[a]? = some cl → cl.vm.isStatics = false) (o_exa_ns A289) all0)
    have f325 := o_sta_keep f299 K322 (allS (P := fun a => ∀ cl : Cell, h289[a]? = some cl → cl.vm.isStatics = false) (o_exa_ns A289) all0)
    have f326 := o_sta_keep f300 K322 (allS (P := fun a => ∀ cl : Cell, h289[a]? = some cl → cl.vm.isStatics = false) (o_exa_ns A289) all0)
    have f327 := o_sta_keep f301 K322 (allS (P := fun a => ∀ cl : Cell, h289[a]? = some cl → cl.vm.isStatics = false) (o_exa_ns A289) all0)
    have f328 := o_sta_keep f302 K322 (allS (P := fun a => ∀ cl : Cell, h289[a]? = some cl → cl.vm.isStatics = false) (o_exa_ns A289) all0)
    have f329 := f303.keep K322 (ninS ne290 nin0)
    have f330 := f304.keep K322
    have f331 := f305.keep K322 (ninS ne291 nin0)
    have f332 := f306.keep K322 (ninS ne291 nin0)
    have f333 := f307.keep K322 (ninS ne292 nin0)
    have f334 := f308.keep K322
    have f335 := f309.keep K322 (ninS ne294 nin0)
    have f336 := f310.keep K322 (ninS ne293 nin0)
    have f337 := f311.keep K322 (ninS ne293 nin0)
    have f338 := f312.keep K322 (ninS ne295 nin0)
    have f339 := f313.keep K322
    have f340 := f314.keep K322 (ninS ne296 nin0)
    have f341 := f315.keep K322 (ninS ne296 nin0)
    have f342 := f316.keep K322 (ninS ne297 nin0)
    have f343 := A289.keep K322
    have zz322 : n0 ≤ T322.heap.size := Nat.le_trans zz289 K322.1
    have K348 : Keep h0 T322.heap [] := K317.trans K322 (allS (P := fun x => x ∈ [] ∨ h0.size ≤ x) (Or.inr sz289) all0)
    show Goes _ _ p e below s _ _ _ (T322.setTop (mkF m 171 #[.val (.int p0), .val (.int p1), .val (.int p2), .val (.int p3), .val (.ref b154), .val (.ref b178), .val (.int (1 : Int32)), .val (.ref b203), .val (.ref (o_oc ((p2.toUInt32 >>> (2 : UInt32)).toInt32 &&& (3 : Int32)) x0 x1 x2 x3)), .val (.ref s1_259), .unset, .unset, .unset, .unset, .unset] [(.ref b289)]))
    refine o_astore X322 hx (hb hby at_171) rfl (Ls' := #[.val (.int p0), .val (.int p1), .val (.int p2), .val (.int p3), .val (.ref b154), .val (.ref b178), .val (.int (1 : Int32)), .val (.ref b203), .val (.ref (o_oc ((p2.toUInt32 >>> (2 : UInt32)).toInt32 &&& (3 : Int32)) x0 x1 x2 x3)), .val (.ref s1_259), .val (.ref b289), .unset, .unset, .unset, .unset]) rfl (n := 173) rfl ?_
    refine o_aload X322 hx (hb hby at_173) (v := (.ref b289)) rfl rfl (n := 175) rfl ?_
    refine o_callV X322 hx hZ hown (hw _ (List.mem_of_getElem? (i := 71) rfl)) (hw _ (List.mem_of_getElem? (i := 72) rfl)) (hw _ (List.mem_of_getElem? (i := 74) rfl)) (hw _ (List.mem_of_getElem? (i := 73) rfl)) (hw _ (List.mem_of_getElem? (i := 53) rfl)) (hw _ (List.mem_of_getElem? (i := 75) rfl)) (by decide) (rfl : T322.heap = T322.heap) o322_0 (argsL := []) (rest := []) (c_isf0 l Z a0 hw b289 b203 T322.heap o322_0 o322_2) 0 (by decide) (by decide) (by decide) (by decide) (by rw [hml]; rfl) (lenOf o_pd20 rfl) rfl (Nat.le_of_eq rfl) (hb hby at_175) (n := 178) rfl ?_
    intro v349 T349 L349 X349 q349
    obtain ⟨rfl, e349, rfl⟩ := q349
    have N350 := Fr.app N323 (Fr.nil n0)
    show Goes _ _ p e below s _ _ _ (T349.setTop (mkF m 178 #[.val (.int p0), .val (.int p1), .val (.int p2), .val (.int p3), .val (.ref b154), .val (.ref b178), .val (.int (1 : Int32)), .val (.ref b203), .val (.ref (o_oc ((p2.toUInt32 >>> (2 : UInt32)).toInt32 &&& (3 : Int32)) x0 x1 x2 x3)), .val (.ref s1_259), .val (.ref b289), .unset, .unset, .unset, .unset] [(.int (0 : Int32))]))
    refine o_istore X349 hx (hb hby at_178) (Ls' := #[.val (.int p0), .val (.int p1), .val (.int p2), .val (.int p3), .val (.ref b154), .val (.ref b178), .val (.int (1 : Int32)), .val (.ref b203), .val (.ref (o_oc ((p2.toUInt32 >>> (2 : UInt32)).toInt32 &&& (3 : Int32)) x0 x1 x2 x3)), .val (.ref s1_259), .val (.ref b289), .val (.int (0 : Int32)), .unset, .unset, .unset]) rfl (n := 180) rfl ?_
    refine o_iload X349 hx (hb hby at_180) (v := (1 : Int32)) rfl (n := 182) rfl ?_
    refine o_ifY X349 hx (hb hby at_182) (XT.i0_ne_t (by decide)) (by decide) (n := 189) (by decide) ?_
    refine o_iconst X349 hx (hb hby at_189) (v := (0 : Int32)) rfl (n := 190) rfl ?_
    refine o_istore X349 hx (hb hby at_190) (Ls' := #[.val (.int p0), .val (.int p1), .val (.int p2), .val (.int p3), .val (.ref b154), .val (.ref b178), .val (.int (1 : Int32)), .val (.ref b203), .val (.ref (o_oc ((p2.toUInt32 >>> (2 : UInt32)).toInt32 &&& (3 : Int32)) x0 x1 x2 x3)), .val (.ref s1_259), .val (.ref b289), .val (.int (0 : Int32)), .val (.int (0 : Int32)), .unset, .unset]) rfl (n := 192) rfl ?_
    refine o_aload X349 hx (hb hby at_192) (v := (.ref b289)) rfl rfl (n := 194) rfl ?_
    refine o_callVW X349 hx hZ hown (hw _ (List.mem_of_getElem? (i := 76) rfl)) (hw _ (List.mem_of_getElem? (i := 77) rfl)) (hw _ (List.mem_of_getElem? (i := 79) rfl)) (hw _ (List.mem_of_getElem? (i := 78) rfl)) (hw _ (List.mem_of_getElem? (i := 53) rfl)) (hw _ (List.mem_of_getElem? (i := 80) rfl)) (by decide) e349 o322_0 (argsL := []) (rest := []) IB240 (c_gvn_0 l Z a0 hw b289 b178 n1_189 kn_189 b203 n1_240 kn_240 cs ca.toInt8.toInt32 cb.toInt8.toInt32 T322.heap o322_0 o322_1 o322_2 f330 f331 f332 f333 f334 f336 f337 f338 f328 hcs (fun b cl q => K348.2.1 b cl (hZ0 ▸ q) nin0) hheld hcw) 0 (by decide) (by decide) (by decide) (by decide) (by rw [hml]; rfl) (lenOf o_pd25 rfl) rfl (Nat.le_of_eq rfl) (hb hby at_194) (n := 197) rfl ?_
    intro v351 T351 L351 X351 S351 hg351 hZ hown IB351 q351
    have X351 : Stand p l e _ (s.setVm T351.vm) m _ below meth c T351 _ _ _ := X351
    have S351 := State.Since.trans S240 S351 (Nat.le_trans (Nat.le_trans (Nat.le_trans (Nat.le_trans (Nat.le_refl _) K259.1) E289.1) K322.1) hg351)
    have hZ : Z.Warmed39 (s.setVm T351.vm).vm := hZ
    have hown : (s.setVm T351.vm).vm.findClass "com/example/estim365/estim365/cli/OptionIsFlagPinLaw" = some m.cls := hown
    obtain ⟨s1_351, n1_351, kn_351, rfl, Nq351, K351, sq351_s1, sq351_n1, o351_0, o351_1, o351_2, o351_3⟩ := q351
    have N352 := Fr.app N350 (o_frw zz322 Nq351)
    have ne353 : b154 ≠ s1_351 := Nat.ne_of_lt (Nat.lt_of_lt_of_le f329.lt sq351_s1)
    have ne354 : b178 ≠ s1_351 := Nat.ne_of_lt (Nat.lt_of_lt_of_le f330.lt sq351_s1)
    have ne355 : n1_189 ≠ s1_351 := Nat.ne_of_lt (Nat.lt_of_lt_of_le f333.lt sq351_s1)
    have ne356 : b203 ≠ s1_351 := Nat.ne_of_lt (Nat.lt_of_lt_of_le f334.lt sq351_s1)
    have ne357 : b220 ≠ s1_351 := Nat.ne_of_lt (Nat.lt_of_lt_of_le f335.lt sq351_s1)
    have ne358 : n1_240 ≠ s1_351 := Nat.ne_of_lt (Nat.lt_of_lt_of_le f338.lt sq351_s1)
    have ne359 : s1_259 ≠ s1_351 := Nat.ne_of_lt (Nat.lt_of_lt_of_le f339.lt sq351_s1)
    have ne360 : n1_259 ≠ s1_351 := Nat.ne_of_lt (Nat.lt_of_lt_of_le f342.lt sq351_s1)
    have ne361 : b289 ≠ s1_351 := Nat.ne_of_lt (Nat.lt_of_lt_of_le o322_0.lt sq351_s1)
    have ne362 : b154 ≠ n1_351 := Nat.ne_of_lt (Nat.lt_of_lt_of_le f329.lt sq351_n1)
    have ne363 : b178 ≠ n1_351 := Nat.ne_of_lt (Nat.lt_of_lt_of_le f330.lt sq351_n1)
    have ne364 : n1_189 ≠ n1_351 := Nat.ne_of_lt (Nat.lt_of_lt_of_le f333.lt sq351_n1)
    have ne365 : b203 ≠ n1_351 := Nat.ne_of_lt (Nat.lt_of_lt_of_le f334.lt sq351_n1)
    have ne366 : b220 ≠ n1_351 := Nat.ne_of_lt (Nat.lt_of_lt_of_le f335.lt sq351_n1)
    have ne367 : n1_240 ≠ n1_351 := Nat.ne_of_lt (Nat.lt_of_lt_of_le f338.lt sq351_n1)
    have ne368 : s1_259 ≠ n1_351 := Nat.ne_of_lt (Nat.lt_of_lt_of_le f339.lt sq351_n1)
    have ne369 : n1_259 ≠ n1_351 := Nat.ne_of_lt (Nat.lt_of_lt_of_le f342.lt sq351_n1)
    have ne370 : b289 ≠ n1_351 := Nat.ne_of_lt (Nat.lt_of_lt_of_le o322_0.lt sq351_n1)
    have f371 := o_sta_keep f324 K351 all0
    have f372 := o_sta_keep f325 K351 all0
    have f373 := o_sta_keep f326 K351 all0
    have f374 := o_sta_keep f327 K351 all0
    have f375 := o_sta_keep f328 K351 all0
    have f376 := f329.keep K351 nin0
    have f377 := f330.keep K351
    have f378 := f331.keep K351 nin0
    have f379 := f332.keep K351 nin0
    have f380 := f333.keep K351 nin0
    have f381 := f334.keep K351
    have f382 := f335.keep K351 nin0
    have f383 := f336.keep K351 nin0
    have f384 := f337.keep K351 nin0
    have f385 := f338.keep K351 nin0
    have f386 := f339.keep K351
    have f387 := f340.keep K351 nin0
    have f388 := f341.keep K351 nin0
    have f389 := f342.keep K351 nin0
    have f390 := o322_0.keep K351
    have f391 := o322_1.keep K351 nin0
    have f392 := o322_2.keep K351 nin0
    have f393 := o322_3.keep K351 nin0
    have f394 := o322_4.keep K351 nin0
    have zz351 : n0 ≤ T351.heap.size := Nat.le_trans zz322 K351.1
    have K395 : Keep h0 T351.heap [] := K348.trans K351 all0
    show Goes _ _ p e below s _ _ _ (T351.setTop (mkF m 197 #[.val (.int p0), .val (.int p1), .val (.int p2), .val (.int p3), .val (.ref b154), .val (.ref b178), .val (.int (1 : Int32)), .val (.ref b203), .val (.ref (o_oc ((p2.toUInt32 >>> (2 : UInt32)).toInt32 &&& (3 : Int32)) x0 x1 x2 x3)), .val (.ref s1_259), .val (.ref b289), .val (.int (0 : Int32)), .val (.int (0 : Int32)), .unset, .unset] [(.ref s1_351)]))
    refine o_aload X351 hx (hb hby at_197) (v := (.ref b178)) rfl rfl (n := 199) rfl ?_
    refine o_callV X351 hx hZ hown (hw _ (List.mem_of_getElem? (i := 195) rfl)) (hw _ (List.mem_of_getElem? (i := 196) rfl)) (hw _ (List.mem_of_getElem? (i := 198) rfl)) (hw _ (List.mem_of_getElem? (i := 197) rfl)) (hw _ (List.mem_of_getElem? (i := 3) rfl)) (hw _ (List.mem_of_getElem? (i := 199) rfl)) (by decide) (rfl : T351.heap = T351.heap) o351_0 (argsL := [(.ref b178)]) (rest := []) (c_eq3 l Z a0 hw s1_351 n1_351 kn_351 ([(.int ca.toInt8.toInt32), (.int cb.toInt8.toInt32), (.int (32 : Int32))]) b178 n1_189 kn_189 ([(.int ca.toInt8.toInt32), (.int cb.toInt8.toInt32)]) cs T351.heap o351_0 o351_1 o351_2 o351_3 f377 f378 f379 f380 (Ne.symm ne354) f375 hcs) 0 (by decide) (by decide) (by decide) (by decide) (by rw [hml]; rfl) (lenOf o_pd29 rfl) rfl (Nat.le_of_eq rfl) (hb hby at_199) (n := 202) rfl ?_
    intro v396 T396 L396 X396 q396
    obtain ⟨rfl, e396, rfl⟩ := q396
    have N397 := Fr.app N352 (Fr.nil n0)
    show Goes _ _ p e below s _ _ _ (T396.setTop (mkF m 202 #[.val (.int p0), .val (.int p1), .val (.int p2), .val (.int p3), .val (.ref b154), .val (.ref b178), .val (.int (1 : Int32)), .val (.ref b203), .val (.ref (o_oc ((p2.toUInt32 >>> (2 : UInt32)).toInt32 &&& (3 : Int32)) x0 x1 x2 x3)), .val (.ref s1_259), .val (.ref b289), .val (.int (0 : Int32)), .val (.int (0 : Int32)), .unset, .unset] [(.int (0 : Int32))]))
    refine o_istore X396 hx (hb hby at_202) (Ls' := #[.val (.int p0), .val (.int p1), .val (.int p2), .val (.int p3), .val (.ref b154), .val (.ref b178), .val (.int (1 : Int32)), .val (.ref b203), .val (.ref (o_oc ((p2.toUInt32 >>> (2 : UInt32)).toInt32 &&& (3 : Int32)) x0 x1 x2 x3)), .val (.ref s1_259), .val (.ref b289), .val (.int (0 : Int32)), .val (.int (0 : Int32)), .val (.int (0 : Int32)), .unset]) rfl (n := 204) rfl ?_
    refine o_aload X396 hx (hb hby at_204) (v := (.ref b178)) rfl rfl (n := 206) rfl ?_
    refine o_aload X396 hx (hb hby at_206) (v := (.ref s1_259)) rfl rfl (n := 208) rfl ?_
    refine o_callS X396 hx hZ hown (hw _ (List.mem_of_getElem? (i := 203) rfl)) (hw _ (List.mem_of_getElem? (i := 204) rfl)) (hw _ (List.mem_of_getElem? (i := 53) rfl)) (hw _ (List.mem_of_getElem? (i := 205) rfl)) (by decide) e396 (argsL := [(.ref b178), (.ref s1_259)]) (rest := []) (c_flag l Z a0 hw b178 s1_259 x1 T351.heap n0 zz351 f372) 0 (by decide) (by decide) (by decide) (by decide) (by rw [hml]; rfl) (lenOf o_pd30 rfl) rfl (Nat.le_of_eq rfl) (hb hby at_208) (n := 211) rfl ?_
    intro v398 T398 L398 X398 q398
    obtain ⟨n1_398, rfl, Nq398, K398, sq398_n1, o398_0, o398_1⟩ := q398
    have N399 := Fr.app N397 Nq398
    have ne400 : b154 ≠ n1_398 := Nat.ne_of_lt (Nat.lt_of_lt_of_le f376.lt sq398_n1)
    have ne401 : b178 ≠ n1_398 := Nat.ne_of_lt (Nat.lt_of_lt_of_le f377.lt sq398_n1)
    have ne402 : n1_189 ≠ n1_398 := Nat.ne_of_lt (Nat.lt_of_lt_of_le f380.lt sq398_n1)
    have ne403 : b203 ≠ n1_398 := Nat.ne_of_lt (Nat.lt_of_lt_of_le f381.lt sq398_n1)
    have ne404 : b220 ≠ n1_398 := Nat.ne_of_lt (Nat.lt_of_lt_of_le f382.lt sq398_n1)
    have ne405 : n1_240 ≠ n1_398 := Nat.ne_of_lt (Nat.lt_of_lt_of_le f385.lt sq398_n1)
    have ne406 : s1_259 ≠ n1_398 := Nat.ne_of_lt (Nat.lt_of_lt_of_le f386.lt sq398_n1)
    have ne407 : n1_259 ≠ n1_398 := Nat.ne_of_lt (Nat.lt_of_lt_of_le f389.lt sq398_n1)
    have ne408 : b289 ≠ n1_398 := Nat.ne_of_lt (Nat.lt_of_lt_of_le f390.lt sq398_n1)
    have ne409 : s1_351 ≠ n1_398 := Nat.ne_of_lt (Nat.lt_of_lt_of_le o351_0.lt sq398_n1)
    have ne410 : n1_351 ≠ n1_398 := Nat.ne_of_lt (Nat.lt_of_lt_of_le o351_3.lt sq398_n1)
    have gg398_n1 : n0 ≤ n1_398 := Nat.le_trans zz351 sq398_n1
    have sz398_n1 : h0.size ≤ n1_398 := Nat.le_trans K395.1 sq398_n1
    have f411 := o_sta_keep f371 K398 all0
    have f412 := o_sta_keep f372 K398 all0
    have f413 := o_sta_keep f373 K398 all0
    have f414 := o_sta_keep f374 K398 all0
    have f415 := o_sta_keep f375 K398 all0
    have f416 := f376.keep K398 nin0
    have f417 := f377.keep K398
    have f418 := f378.keep K398 nin0
    have f419 := f379.keep K398 nin0
    have f420 := f380.keep K398 nin0
    have f421 := f381.keep K398
    have f422 := f382.keep K398 nin0
    have f423 := f383.keep K398 nin0
    have f424 := f384.keep K398 nin0
    have f425 := f385.keep K398 nin0
    have f426 := f386.keep K398
    have f427 := f387.keep K398 nin0
    have f428 := f388.keep K398 nin0
    have f429 := f389.keep K398 nin0
    have f430 := f390.keep K398
    have f431 := f391.keep K398 nin0
    have f432 := f392.keep K398 nin0
    have f433 := f393.keep K398 nin0
    have f434 := f394.keep K398 nin0
    have f435 := o351_0.keep K398
    have f436 := o351_1.keep K398 nin0
    have f437 := o351_2.keep K398 nin0
    have f438 := o351_3.keep K398 nin0
    have zz398 : n0 ≤ T398.heap.size := Nat.le_trans zz351 K398.1
    have K439 : Keep h0 T398.heap [] := K395.trans K398 all0
    show Goes _ _ p e below s _ _ _ (T398.setTop (mkF m 211 #[.val (.int p0), .val (.int p1), .val (.int p2), .val (.int p3), .val (.ref b154), .val (.ref b178), .val (.int (1 : Int32)), .val (.ref b203), .val (.ref (o_oc ((p2.toUInt32 >>> (2 : UInt32)).toInt32 &&& (3 : Int32)) x0 x1 x2 x3)), .val (.ref s1_259), .val (.ref b289), .val (.int (0 : Int32)), .val (.int (0 : Int32)), .val (.int (0 : Int32)), .unset] [(.ref n1_398)]))
    refine o_callV X398 hx hZ hown (hw _ (List.mem_of_getElem? (i := 71) rfl)) (hw _ (List.mem_of_getElem? (i := 72) rfl)) (hw _ (List.mem_of_getElem? (i := 74) rfl)) (hw _ (List.mem_of_getElem? (i := 73) rfl)) (hw _ (List.mem_of_getElem? (i := 53) rfl)) (hw _ (List.mem_of_getElem? (i := 75) rfl)) (by decide) (rfl : T398.heap = T398.heap) o398_0 (argsL := []) (rest := []) (c_isf1 l Z a0 hw n1_398 T398.heap o398_0 o398_1) 0 (by decide) (by decide) (by decide) (by decide) (by rw [hml]; rfl) (lenOf o_pd20 rfl) rfl (Nat.le_of_eq rfl) (hb hby at_211) (n := 214) rfl ?_
    intro v440 T440 L440 X440 q440
    obtain ⟨rfl, e440, rfl⟩ := q440
    have N441 := Fr.app N399 (Fr.nil n0)
    show Goes _ _ p e below s _ _ _ (T440.setTop (mkF m 214 #[.val (.int p0), .val (.int p1), .val (.int p2), .val (.int p3), .val (.ref b154), .val (.ref b178), .val (.int (1 : Int32)), .val (.ref b203), .val (.ref (o_oc ((p2.toUInt32 >>> (2 : UInt32)).toInt32 &&& (3 : Int32)) x0 x1 x2 x3)), .val (.ref s1_259), .val (.ref b289), .val (.int (0 : Int32)), .val (.int (0 : Int32)), .val (.int (0 : Int32)), .unset] [(.int (1 : Int32))]))
    refine o_istore X440 hx (hb hby at_214) (Ls' := #[.val (.int p0), .val (.int p1), .val (.int p2), .val (.int p3), .val (.ref b154), .val (.ref b178), .val (.int (1 : Int32)), .val (.ref b203), .val (.ref (o_oc ((p2.toUInt32 >>> (2 : UInt32)).toInt32 &&& (3 : Int32)) x0 x1 x2 x3)), .val (.ref s1_259), .val (.ref b289), .val (.int (0 : Int32)), .val (.int (0 : Int32)), .val (.int (0 : Int32)), .val (.int (1 : Int32))]) rfl (n := 216) rfl ?_
    refine o_iload X440 hx (hb hby at_216) (v := (0 : Int32)) rfl (n := 218) rfl ?_
    refine o_iload X440 hx (hb hby at_218) (v := (0 : Int32)) rfl (n := 220) rfl ?_
    refine o_icmpN X440 hx (hb hby at_220) (XT.ii_ne_f (by decide)) (n := 223) rfl ?_
    refine o_iload X440 hx (hb hby at_223) (v := (0 : Int32)) rfl (n := 225) rfl ?_
    refine o_iload X440 hx (hb hby at_225) (v := (0 : Int32)) rfl (n := 227) rfl ?_
    refine o_icmpN X440 hx (hb hby at_227) (XT.ii_ne_f (by decide)) (n := 230) rfl ?_
    refine o_iload X440 hx (hb hby at_230) (v := (1 : Int32)) rfl (n := 232) rfl ?_
    refine o_ifN X440 hx (hb hby at_232) (XT.i0_eq_f (by decide)) (n := 235) rfl ?_
    refine o_iconst X440 hx (hb hby at_235) (v := (1 : Int32)) rfl (n := 236) rfl ?_
    refine o_goto X440 hx (hb hby at_236) (by decide) (n := 240) (by decide) ?_
    exact o_nreturnW X440 hx S351 (Nat.le_trans (Nat.le_refl _) K398.1) hret hlk (t := .boolean) (by simp) (hb hby at_240) (by decide) (by decide) e440 (fun _ _ => trivial) ⟨rfl, N441⟩
  · refine o_iconst X0 hx (hb hby at_0) (v := (2 : Int32)) rfl (n := 1) rfl ?_
    refine o_newarray X0 hx hZ (aty := .char) (hw _ (List.mem_of_getElem? (i := 0) rfl)) e0 (hb hby at_1) (by decide) 2 (by decide) (by decide) (by decide) (by decide) (n := 3) rfl ?_
    intro T442 h442 b442 k442 X442 e442 g442 E442 V442
    have gg442 : n0 ≤ b442 := Nat.le_trans Z0 (Nat.le_of_eq g442.symm)
    have zz442 : n0 ≤ h442.size := Nat.le_trans Z0 E442.1
    have sz442 : h0.size ≤ b442 := Nat.le_trans (Keep.refl h0 []).1 (Nat.le_of_eq g442.symm)
    have f443 := pS_REQUIRED.ext E442
    have f444 := pS_OPTIONAL.ext E442
    have f445 := pS_REPEATED.ext E442
    have f446 := pS_OPTIONAL_REPEATED.ext E442
    have f447 := pS_COMPACT_STRINGS.ext E442
    have K448 : Keep h0 h442 [] := (Keep.refl h0 []).ext E442
    have f449 : Arv Z h442 b442 k442 .char (2 : Int32) [(.int (0 : Int32)), (.int (0 : Int32))] (.int (0 : Int32)) := V442.pad (pad_rep [] (.int (0 : Int32)) 2)
    refine o_astore X442 hx (hb hby at_3) rfl (Ls' := #[.val (.int p0), .val (.int p1), .val (.int p2), .val (.int p3), .val (.ref b442), .unset, .unset, .unset, .unset, .unset, .unset, .unset, .unset, .unset, .unset]) rfl (n := 5) rfl ?_
    refine o_aload X442 hx (hb hby at_5) (v := (.ref b442)) rfl rfl (n := 7) rfl ?_
    refine o_iconst X442 hx (hb hby at_7) (v := (0 : Int32)) rfl (n := 8) rfl ?_
    refine o_iloadN X442 hx (hb hby at_8) (v := p0) rfl (n := 9) rfl ?_
    refine o_sipush X442 hx (hb hby at_9) (v := (255 : Int32)) rfl (n := 12) rfl ?_
    refine o_iand X442 hx (hb hby at_12) (v := (p0 &&& (255 : Int32))) rfl (n := 13) rfl ?_
    refine o_i2c X442 hx (hb hby at_13) (v := ca) hca (n := 14) rfl ?_
    refine o_castore X442 hx hZ e442 f449 (0) (by decide) (by decide) (Nat.le_of_ble_eq_true rfl) (w := (.int ca)) (congrArg Value.int nca) (vs' := [(.int ca), (.int (0 : Int32))]) rfl (o_fitC _) (hb hby at_14) (n := 15) rfl ?_
    intro T450 h450 X450 e450 W450 V450
    have f451 := f443.wr W450
    have f452 := f444.wr W450
    have f453 := f445.wr W450
    have f454 := f446.wr W450
    have f455 := f447.wr W450
    have zz450 : n0 ≤ h450.size := Nat.le_trans zz442 (Nat.le_of_eq W450.size.symm)
    have N456 := Fr.snoc X450 N0 gg442
    have K457 : Keep h0 h450 [] := K448.wr W450 (Or.inr sz442)
    refine o_aload X450 hx (hb hby at_15) (v := (.ref b442)) rfl rfl (n := 17) rfl ?_
    refine o_iconst X450 hx (hb hby at_17) (v := (1 : Int32)) rfl (n := 18) rfl ?_
    refine o_iloadN X450 hx (hb hby at_18) (v := p0) rfl (n := 19) rfl ?_
    refine o_bipush X450 hx (hb hby at_19) (v := (8 : Int32)) rfl (n := 21) rfl ?_
    refine o_iushr X450 hx (hb hby at_21) (v := (p0.toUInt32 >>> (8 : UInt32)).toInt32) (congrArg (fun q : UInt32 => (p0.toUInt32 >>> q).toInt32) (show ((8 : Int32) &&& 31).toUInt32 = 8 by decide)) (n := 22) rfl ?_
    refine o_sipush X450 hx (hb hby at_22) (v := (255 : Int32)) rfl (n := 25) rfl ?_
    refine o_iand X450 hx (hb hby at_25) (v := ((p0.toUInt32 >>> (8 : UInt32)).toInt32 &&& (255 : Int32))) rfl (n := 26) rfl ?_
    refine o_i2c X450 hx (hb hby at_26) (v := cb) hcb (n := 27) rfl ?_
    refine o_castore X450 hx hZ e450 V450 (1) (by decide) (by decide) (Nat.le_of_ble_eq_true rfl) (w := (.int cb)) (congrArg Value.int ncb) (vs' := [(.int ca), (.int cb)]) rfl (o_fitC _) (hb hby at_27) (n := 28) rfl ?_
    intro T458 h458 X458 e458 W458 V458
    have f459 := f451.wr W458
    have f460 := f452.wr W458
    have f461 := f453.wr W458
    have f462 := f454.wr W458
    have f463 := f455.wr W458
    have zz458 : n0 ≤ h458.size := Nat.le_trans zz450 (Nat.le_of_eq W458.size.symm)
    have N464 := Fr.snoc X458 N456 gg442
    have K465 : Keep h0 h458 [] := K457.wr W458 (Or.inr sz442)
    refine o_new X458 hx hZ hown (hw _ (List.mem_of_getElem? (i := 1) rfl)) (hw _ (List.mem_of_getElem? (i := 2) rfl)) (hw _ (List.mem_of_getElem? (i := 3) rfl)) e458 (hb hby at_28) (by decide) (by decide) (n := 31) rfl ?_
    intro T466 h466 b466 X466 e466 g466 E466 A466 D466
    have ne467 : b442 ≠ b466 := Nat.ne_of_lt (Nat.lt_of_lt_of_eq V458.lt g466.symm)
    have gg466 : n0 ≤ b466 := Nat.le_trans zz458 (Nat.le_of_eq g466.symm)
    have zz466 : n0 ≤ h466.size := Nat.le_trans zz458 E466.1
    have sz466 : h0.size ≤ b466 := Nat.le_trans K465.1 (Nat.le_of_eq g466.symm)
    have f468 := f459.ext E466
    have f469 := f460.ext E466
    have f470 := f461.ext E466
    have f471 := f462.ext E466
    have f472 := f463.ext E466
    have f473 := V458.ext E466
    have K474 : Keep h0 h466 [] := K465.ext E466
    have f475 : Fld Z h466 b466 "java/lang/String" "coder" "B" (.int (0 : Int32)) := D466 (Or.inr (hw _ (List.mem_of_getElem? (i := 27) rfl))) (ty := .byte) (by decide)
    have f476 : Fld Z h466 b466 "java/lang/String" "value" "[B" .null := D466 (Or.inr (hw _ (List.mem_of_getElem? (i := 29) rfl))) (ty := (.array .byte)) (by decide)
    refine o_dup X466 hx (hb hby at_31) rfl (n := 32) rfl ?_
    refine o_aload X466 hx (hb hby at_32) (v := (.ref b442)) rfl rfl (n := 34) rfl ?_
    refine o_callN X466 hx hZ rfl hown (hw _ (List.mem_of_getElem? (i := 4) rfl)) (hw _ (List.mem_of_getElem? (i := 5) rfl)) (hw _ (List.mem_of_getElem? (i := 3) rfl)) (hw _ (List.mem_of_getElem? (i := 6) rfl)) (by decide) e466 (a := b466) (argsL := [(.ref b442)]) (rest := [(.ref b466)]) (c_in1 l Z a0 hw b466 b442 k442 ca cb cs h466 n0 zz466 gg466 A466 f475 f476 f473 (Ne.symm ne467) f472 qca qcb hcs) 1 (by decide) (by decide) (by decide) (by decide) (by rw [hml]; rfl) (lenOf o_pd26 rfl) rfl (Nat.le_of_eq rfl) (hb hby at_34) (n := 37) rfl ?_
    intro v477 T477 L477 X477 q477
    obtain ⟨n1_477, kn_477, rfl, Nq477, K477, sq477_n1, o477_0, o477_1, o477_2, o477_3⟩ := q477
    have N478 := Fr.app N464 Nq477
    have ne479 : b442 ≠ n1_477 := Nat.ne_of_lt (Nat.lt_of_lt_of_le f473.lt sq477_n1)
    have ne480 : b466 ≠ n1_477 := Nat.ne_of_lt (Nat.lt_of_lt_of_le A466.lt sq477_n1)
    have gg477_n1 : n0 ≤ n1_477 := Nat.le_trans zz466 sq477_n1
    have sz477_n1 : h0.size ≤ n1_477 := Nat.le_trans K474.1 sq477_n1
    have f481 := o_sta_keep f468 K477 (allS (P := fun a => ∀ cl : Cell, h466[a]? = some cl → cl.vm.isStatics = false) (o_exa_ns A466) all0)
    have f482 := o_sta_keep f469 K477 (allS (P := fun a => ∀ cl : Cell, h466[a]? = some cl → cl.vm.isStatics = false) (o_exa_ns A466) all0)
    have f483 := o_sta_keep f470 K477 (allS (P := fun a => ∀ cl : Cell, h466[a]? = some cl → cl.vm.isStatics = false) (o_exa_ns A466) all0)
    have f484 := o_sta_keep f471 K477 (allS (P := fun a => ∀ cl : Cell, h466[a]? = some cl → cl.vm.isStatics = false) (o_exa_ns A466) all0)
    have f485 := o_sta_keep f472 K477 (allS (P := fun a => ∀ cl : Cell, h466[a]? = some cl → cl.vm.isStatics = false) (o_exa_ns A466) all0)
    have f486 := f473.keep K477 (ninS ne467 nin0)
    have f487 := A466.keep K477
    have zz477 : n0 ≤ T477.heap.size := Nat.le_trans zz466 K477.1
    have K490 : Keep h0 T477.heap [] := K474.trans K477 (allS (P := fun x => x ∈ [] ∨ h0.size ≤ x) (Or.inr sz466) all0)
    show Goes _ _ p e below s _ _ _ (T477.setTop (mkF m 37 #[.val (.int p0), .val (.int p1), .val (.int p2), .val (.int p3), .val (.ref b442), .unset, .unset, .unset, .unset, .unset, .unset, .unset, .unset, .unset, .unset] [(.ref b466)]))
    refine o_astore X477 hx (hb hby at_37) rfl (Ls' := #[.val (.int p0), .val (.int p1), .val (.int p2), .val (.int p3), .val (.ref b442), .val (.ref b466), .unset, .unset, .unset, .unset, .unset, .unset, .unset, .unset, .unset]) rfl (n := 39) rfl ?_
    refine o_iloadN X477 hx (hb hby at_39) (v := p2) rfl (n := 40) rfl ?_
    refine o_iconst X477 hx (hb hby at_40) (v := (3 : Int32)) rfl (n := 41) rfl ?_
    refine o_iand X477 hx (hb hby at_41) (v := (2 : Int32)) q (n := 42) rfl ?_
    refine o_istore X477 hx (hb hby at_42) (Ls' := #[.val (.int p0), .val (.int p1), .val (.int p2), .val (.int p3), .val (.ref b442), .val (.ref b466), .val (.int (2 : Int32)), .unset, .unset, .unset, .unset, .unset, .unset, .unset, .unset]) rfl (n := 44) rfl ?_
    refine o_iload X477 hx (hb hby at_44) (v := (2 : Int32)) rfl (n := 46) rfl ?_
    refine o_ifY X477 hx (hb hby at_46) (XT.i0_ne_t (by decide)) (by decide) (n := 55) (by decide) ?_
    refine o_iload X477 hx (hb hby at_55) (v := (2 : Int32)) rfl (n := 57) rfl ?_
    refine o_iconst X477 hx (hb hby at_57) (v := (1 : Int32)) rfl (n := 58) rfl ?_
    refine o_icmpY X477 hx (hb hby at_58) (XT.ii_ne_t (by decide)) (by decide) (n := 76) (by decide) ?_
    refine o_iload X477 hx (hb hby at_76) (v := (2 : Int32)) rfl (n := 78) rfl ?_
    refine o_iconst X477 hx (hb hby at_78) (v := (2 : Int32)) rfl (n := 79) rfl ?_
    refine o_icmpN X477 hx (hb hby at_79) (XT.ii_ne_f (by decide)) (n := 82) rfl ?_
    refine o_iloadN X477 hx (hb hby at_82) (v := p1) rfl (n := 83) rfl ?_
    refine o_sipush X477 hx (hb hby at_83) (v := (255 : Int32)) rfl (n := 86) rfl ?_
    refine o_iand X477 hx (hb hby at_86) (v := (p1 &&& (255 : Int32))) rfl (n := 87) rfl ?_
    refine o_i2c X477 hx (hb hby at_87) (v := cc) hcc (n := 88) rfl ?_
    refine o_callS X477 hx hZ hown (hw _ (List.mem_of_getElem? (i := 30) rfl)) (hw _ (List.mem_of_getElem? (i := 31) rfl)) (hw _ (List.mem_of_getElem? (i := 3) rfl)) (hw _ (List.mem_of_getElem? (i := 32) rfl)) (by decide) (rfl : T477.heap = T477.heap) (argsL := [(.int cc)]) (rest := []) (c_val l Z a0 hw cc cs T477.heap n0 zz477 f485 qcc hcs) 0 (by decide) (by decide) (by decide) (by decide) (by rw [hml]; rfl) (lenOf o_pd28 rfl) rfl (Nat.le_of_eq rfl) (hb hby at_88) (n := 91) rfl ?_
    intro v491 T491 L491 X491 q491
    obtain ⟨s1_491, n1_491, kn_491, rfl, Nq491, K491, sq491_s1, sq491_n1, nq491_s1_n1, o491_0, o491_1, o491_2, o491_3⟩ := q491
    have N492 := Fr.app N478 Nq491
    have ne493 : b442 ≠ s1_491 := Nat.ne_of_lt (Nat.lt_of_lt_of_le f486.lt sq491_s1)
    have ne494 : b466 ≠ s1_491 := Nat.ne_of_lt (Nat.lt_of_lt_of_le o477_0.lt sq491_s1)
    have ne495 : n1_477 ≠ s1_491 := Nat.ne_of_lt (Nat.lt_of_lt_of_le o477_3.lt sq491_s1)
    have gg491_s1 : n0 ≤ s1_491 := Nat.le_trans zz477 sq491_s1
    have sz491_s1 : h0.size ≤ s1_491 := Nat.le_trans K490.1 sq491_s1
    have ne496 : b442 ≠ n1_491 := Nat.ne_of_lt (Nat.lt_of_lt_of_le f486.lt sq491_n1)
    have ne497 : b466 ≠ n1_491 := Nat.ne_of_lt (Nat.lt_of_lt_of_le o477_0.lt sq491_n1)
    have ne498 : n1_477 ≠ n1_491 := Nat.ne_of_lt (Nat.lt_of_lt_of_le o477_3.lt sq491_n1)
    have gg491_n1 : n0 ≤ n1_491 := Nat.le_trans zz477 sq491_n1
    have sz491_n1 : h0.size ≤ n1_491 := Nat.le_trans K490.1 sq491_n1
    have f499 := o_sta_keep f481 K491 all0
    have f500 := o_sta_keep f482 K491 all0
    have f501 := o_sta_keep f483 K491 all0
    have f502 := o_sta_keep f484 K491 all0
    have f503 := o_sta_keep f485 K491 all0
    have f504 := f486.keep K491 nin0
    have f505 := o477_0.keep K491
    have f506 := o477_1.keep K491 nin0
    have f507 := o477_2.keep K491 nin0
    have f508 := o477_3.keep K491 nin0
    have zz491 : n0 ≤ T491.heap.size := Nat.le_trans zz477 K491.1
    have K509 : Keep h0 T491.heap [] := K490.trans K491 all0
    show Goes _ _ p e below s _ _ _ (T491.setTop (mkF m 91 #[.val (.int p0), .val (.int p1), .val (.int p2), .val (.int p3), .val (.ref b442), .val (.ref b466), .val (.int (2 : Int32)), .unset, .unset, .unset, .unset, .unset, .unset, .unset, .unset] [(.ref s1_491)]))
    refine o_astore X491 hx (hb hby at_91) rfl (Ls' := #[.val (.int p0), .val (.int p1), .val (.int p2), .val (.int p3), .val (.ref b442), .val (.ref b466), .val (.int (2 : Int32)), .val (.ref s1_491), .unset, .unset, .unset, .unset, .unset, .unset, .unset]) rfl (n := 93) rfl ?_
    refine o_goto X491 hx (hb hby at_93) (by decide) (n := 135) (by decide) ?_
    refine o_iloadN X491 hx (hb hby at_135) (v := p2) rfl (n := 136) rfl ?_
    refine o_iconst X491 hx (hb hby at_136) (v := (2 : Int32)) rfl (n := 137) rfl ?_
    refine o_iushr X491 hx (hb hby at_137) (v := (p2.toUInt32 >>> (2 : UInt32)).toInt32) (congrArg (fun q : UInt32 => (p2.toUInt32 >>> q).toInt32) (show ((2 : Int32) &&& 31).toUInt32 = 2 by decide)) (n := 138) rfl ?_
    refine o_iconst X491 hx (hb hby at_138) (v := (3 : Int32)) rfl (n := 139) rfl ?_
    refine o_iand X491 hx (hb hby at_139) (v := ((p2.toUInt32 >>> (2 : UInt32)).toInt32 &&& (3 : Int32))) rfl (n := 140) rfl ?_
    refine o_callS X491 hx hZ hown (hw _ (List.mem_of_getElem? (i := 44) rfl)) (hw _ (List.mem_of_getElem? (i := 45) rfl)) (hw _ (List.mem_of_getElem? (i := 46) rfl)) (hw _ (List.mem_of_getElem? (i := 47) rfl)) (by decide) (rfl : T491.heap = T491.heap) (argsL := [(.int ((p2.toUInt32 >>> (2 : UInt32)).toInt32 &&& (3 : Int32)))]) (rest := []) (c_occ l Z a0 hw ((p2.toUInt32 >>> (2 : UInt32)).toInt32 &&& (3 : Int32)) x0 x1 x2 x3 T491.heap f499 f500 f501 f502) 0 (by decide) (by decide) (by decide) (by decide) (by rw [hml]; rfl) (lenOf o_pd27 rfl) rfl (Nat.le_of_eq rfl) (hb hby at_140) (n := 143) rfl ?_
    intro v510 T510 L510 X510 q510
    obtain ⟨rfl, e510, rfl⟩ := q510
    have N511 := Fr.app N492 (Fr.nil n0)
    show Goes _ _ p e below s _ _ _ (T510.setTop (mkF m 143 #[.val (.int p0), .val (.int p1), .val (.int p2), .val (.int p3), .val (.ref b442), .val (.ref b466), .val (.int (2 : Int32)), .val (.ref s1_491), .unset, .unset, .unset, .unset, .unset, .unset, .unset] [(.ref (o_oc ((p2.toUInt32 >>> (2 : UInt32)).toInt32 &&& (3 : Int32)) x0 x1 x2 x3))]))
    refine o_astore X510 hx (hb hby at_143) rfl (Ls' := #[.val (.int p0), .val (.int p1), .val (.int p2), .val (.int p3), .val (.ref b442), .val (.ref b466), .val (.int (2 : Int32)), .val (.ref s1_491), .val (.ref (o_oc ((p2.toUInt32 >>> (2 : UInt32)).toInt32 &&& (3 : Int32)) x0 x1 x2 x3)), .unset, .unset, .unset, .unset, .unset, .unset]) rfl (n := 145) rfl ?_
    refine o_iloadN X510 hx (hb hby at_145) (v := p3) rfl (n := 146) rfl ?_
    refine o_sipush X510 hx (hb hby at_146) (v := (255 : Int32)) rfl (n := 149) rfl ?_
    refine o_iand X510 hx (hb hby at_149) (v := (p3 &&& (255 : Int32))) rfl (n := 150) rfl ?_
    refine o_i2c X510 hx (hb hby at_150) (v := ce) hce (n := 151) rfl ?_
    refine o_callS X510 hx hZ hown (hw _ (List.mem_of_getElem? (i := 30) rfl)) (hw _ (List.mem_of_getElem? (i := 31) rfl)) (hw _ (List.mem_of_getElem? (i := 3) rfl)) (hw _ (List.mem_of_getElem? (i := 32) rfl)) (by decide) e510 (argsL := [(.int ce)]) (rest := []) (c_val l Z a0 hw ce cs T491.heap n0 zz491 f503 qce hcs) 0 (by decide) (by decide) (by decide) (by decide) (by rw [hml]; rfl) (lenOf o_pd28 rfl) rfl (Nat.le_of_eq rfl) (hb hby at_151) (n := 154) rfl ?_
    intro v512 T512 L512 X512 q512
    obtain ⟨s1_512, n1_512, kn_512, rfl, Nq512, K512, sq512_s1, sq512_n1, nq512_s1_n1, o512_0, o512_1, o512_2, o512_3⟩ := q512
    have N513 := Fr.app N511 Nq512
    have ne514 : b442 ≠ s1_512 := Nat.ne_of_lt (Nat.lt_of_lt_of_le f504.lt sq512_s1)
    have ne515 : b466 ≠ s1_512 := Nat.ne_of_lt (Nat.lt_of_lt_of_le f505.lt sq512_s1)
    have ne516 : n1_477 ≠ s1_512 := Nat.ne_of_lt (Nat.lt_of_lt_of_le f508.lt sq512_s1)
    have ne517 : s1_491 ≠ s1_512 := Nat.ne_of_lt (Nat.lt_of_lt_of_le o491_0.lt sq512_s1)
    have ne518 : n1_491 ≠ s1_512 := Nat.ne_of_lt (Nat.lt_of_lt_of_le o491_3.lt sq512_s1)
    have gg512_s1 : n0 ≤ s1_512 := Nat.le_trans zz491 sq512_s1
    have sz512_s1 : h0.size ≤ s1_512 := Nat.le_trans K509.1 sq512_s1
    have ne519 : b442 ≠ n1_512 := Nat.ne_of_lt (Nat.lt_of_lt_of_le f504.lt sq512_n1)
    have ne520 : b466 ≠ n1_512 := Nat.ne_of_lt (Nat.lt_of_lt_of_le f505.lt sq512_n1)
    have ne521 : n1_477 ≠ n1_512 := Nat.ne_of_lt (Nat.lt_of_lt_of_le f508.lt sq512_n1)
    have ne522 : s1_491 ≠ n1_512 := Nat.ne_of_lt (Nat.lt_of_lt_of_le o491_0.lt sq512_n1)
    have ne523 : n1_491 ≠ n1_512 := Nat.ne_of_lt (Nat.lt_of_lt_of_le o491_3.lt sq512_n1)
    have gg512_n1 : n0 ≤ n1_512 := Nat.le_trans zz491 sq512_n1
    have sz512_n1 : h0.size ≤ n1_512 := Nat.le_trans K509.1 sq512_n1
    have f524 := o_sta_keep f499 K512 all0
    have f525 := o_sta_keep f500 K512 all0
    have f526 := o_sta_keep f501 K512 all0
    have f527 := o_sta_keep f502 K512 all0
    have f528 := o_sta_keep f503 K512 all0
    have f529 := f504.keep K512 nin0
    have f530 := f505.keep K512
    have f531 := f506.keep K512 nin0
    have f532 := f507.keep K512 nin0
    have f533 := f508.keep K512 nin0
    have f534 := o491_0.keep K512
    have f535 := o491_1.keep K512 nin0
    have f536 := o491_2.keep K512 nin0
    have f537 := o491_3.keep K512 nin0
    have zz512 : n0 ≤ T512.heap.size := Nat.le_trans zz491 K512.1
    have K538 : Keep h0 T512.heap [] := K509.trans K512 all0
    show Goes _ _ p e below s _ _ _ (T512.setTop (mkF m 154 #[.val (.int p0), .val (.int p1), .val (.int p2), .val (.int p3), .val (.ref b442), .val (.ref b466), .val (.int (2 : Int32)), .val (.ref s1_491), .val (.ref (o_oc ((p2.toUInt32 >>> (2 : UInt32)).toInt32 &&& (3 : Int32)) x0 x1 x2 x3)), .unset, .unset, .unset, .unset, .unset, .unset] [(.ref s1_512)]))
    refine o_astore X512 hx (hb hby at_154) rfl (Ls' := #[.val (.int p0), .val (.int p1), .val (.int p2), .val (.int p3), .val (.ref b442), .val (.ref b466), .val (.int (2 : Int32)), .val (.ref s1_491), .val (.ref (o_oc ((p2.toUInt32 >>> (2 : UInt32)).toInt32 &&& (3 : Int32)) x0 x1 x2 x3)), .val (.ref s1_512), .unset, .unset, .unset, .unset, .unset]) rfl (n := 156) rfl ?_
    refine o_new X512 hx hZ hown (hw _ (List.mem_of_getElem? (i := 51) rfl)) (hw _ (List.mem_of_getElem? (i := 52) rfl)) (hw _ (List.mem_of_getElem? (i := 53) rfl)) (rfl : T512.heap = T512.heap) (hb hby at_156) (by decide) (by decide) (n := 159) rfl ?_
    intro T539 h539 b539 X539 e539 g539 E539 A539 D539
    have ne540 : b442 ≠ b539 := Nat.ne_of_lt (Nat.lt_of_lt_of_eq f529.lt g539.symm)
    have ne541 : b466 ≠ b539 := Nat.ne_of_lt (Nat.lt_of_lt_of_eq f530.lt g539.symm)
    have ne542 : n1_477 ≠ b539 := Nat.ne_of_lt (Nat.lt_of_lt_of_eq f533.lt g539.symm)
    have ne543 : s1_491 ≠ b539 := Nat.ne_of_lt (Nat.lt_of_lt_of_eq f534.lt g539.symm)
    have ne544 : n1_491 ≠ b539 := Nat.ne_of_lt (Nat.lt_of_lt_of_eq f537.lt g539.symm)
    have ne545 : s1_512 ≠ b539 := Nat.ne_of_lt (Nat.lt_of_lt_of_eq o512_0.lt g539.symm)
    have ne546 : n1_512 ≠ b539 := Nat.ne_of_lt (Nat.lt_of_lt_of_eq o512_3.lt g539.symm)
    have gg539 : n0 ≤ b539 := Nat.le_trans zz512 (Nat.le_of_eq g539.symm)
    have zz539 : n0 ≤ h539.size := Nat.le_trans zz512 E539.1
    have sz539 : h0.size ≤ b539 := Nat.le_trans K538.1 (Nat.le_of_eq g539.symm)
    have f547 := f524.ext E539
    have f548 := f525.ext E539
    have f549 := f526.ext E539
    have f550 := f527.ext E539
    have f551 := f528.ext E539
    have f552 := f529.ext E539
    have f553 := f530.ext E539
    have f554 := f531.ext E539
    have f555 := f532.ext E539
    have f556 := f533.ext E539
    have f557 := f534.ext E539
    have f558 := f535.ext E539
    have f559 := f536.ext E539
    have f560 := f537.ext E539
    have f561 := o512_0.ext E539
    have f562 := o512_1.ext E539
    have f563 := o512_2.ext E539
    have f564 := o512_3.ext E539
    have K565 : Keep h0 h539 [] := K538.ext E539
    have f566 : Fld Z h539 b539 "com/example/estim365/estim365/cli/Option" "name" "Ljava/lang/String;" .null := D539 (Or.inr (hw _ (List.mem_of_getElem? (i := 64) rfl))) (ty := (.object "java/lang/String")) (by decide)
    have f567 : Fld Z h539 b539 "com/example/estim365/estim365/cli/Option" "value" "Ljava/lang/String;" .null := D539 (Or.inr (hw _ (List.mem_of_getElem? (i := 66) rfl))) (ty := (.object "java/lang/String")) (by decide)
    have f568 : Fld Z h539 b539 "com/example/estim365/estim365/cli/Option" "occurrence" "Lcom/example/estim365/estim365/cli/Option$Occurrence;" .null := D539 (Or.inr (hw _ (List.mem_of_getElem? (i := 68) rfl))) (ty := (.object "com/example/estim365/estim365/cli/Option$Occurrence")) (by decide)
    have f569 : Fld Z h539 b539 "com/example/estim365/estim365/cli/Option" "description" "Ljava/lang/String;" .null := D539 (Or.inr (hw _ (List.mem_of_getElem? (i := 70) rfl))) (ty := (.object "java/lang/String")) (by decide)
    refine o_dup X539 hx (hb hby at_159) rfl (n := 160) rfl ?_
    refine o_aload X539 hx (hb hby at_160) (v := (.ref b466)) rfl rfl (n := 162) rfl ?_
    refine o_aload X539 hx (hb hby at_162) (v := (.ref s1_491)) rfl rfl (n := 164) rfl ?_
    refine o_aload X539 hx (hb hby at_164) (v := (.ref (o_oc ((p2.toUInt32 >>> (2 : UInt32)).toInt32 &&& (3 : Int32)) x0 x1 x2 x3))) rfl rfl (n := 166) rfl ?_
    refine o_aload X539 hx (hb hby at_166) (v := (.ref s1_512)) rfl rfl (n := 168) rfl ?_
    refine o_callN X539 hx hZ rfl hown (hw _ (List.mem_of_getElem? (i := 54) rfl)) (hw _ (List.mem_of_getElem? (i := 55) rfl)) (hw _ (List.mem_of_getElem? (i := 53) rfl)) (hw _ (List.mem_of_getElem? (i := 56) rfl)) (by decide) e539 (a := b539) (argsL := [(.ref b466), (.ref s1_491), (.ref (o_oc ((p2.toUInt32 >>> (2 : UInt32)).toInt32 &&& (3 : Int32)) x0 x1 x2 x3)), (.ref s1_512)]) (rest := [(.ref b539)]) (c_opi0 l Z a0 hw b539 b466 s1_491 (o_oc ((p2.toUInt32 >>> (2 : UInt32)).toInt32 &&& (3 : Int32)) x0 x1 x2 x3) s1_512 h539 n0 zz539 gg539 A539 f566 f567 f568 f569) 1 (by decide) (by decide) (by decide) (by decide) (by rw [hml]; rfl) (lenOf o_pd8 rfl) rfl (Nat.le_of_eq rfl) (hb hby at_168) (n := 171) rfl ?_
    intro v570 T570 L570 X570 q570
    obtain ⟨rfl, Nq570, K570, o570_0, o570_1, o570_2, o570_3, o570_4⟩ := q570
    have N571 := Fr.app N513 Nq570
    have f572 := o_sta_keep f547 K570 (allS (P := fun a => ∀ cl : Cell, h539[a]? = some cl → cl.vm.isStatics = false) (o_exa_ns A539) all0)
    have f573 := o_sta_keep f548 K570 (allS (P := fun a => ∀ cl : Cell, h539[a]? = some cl → cl.vm.isStatics = false) (o_exa_ns A539) all0)
    have f574 := o_sta_keep f549 K570 (allS (P := fun a => ∀ cl : Cell, h539[a]? = some cl → cl.vm.isStatics = false) (o_exa_ns A539) all0)
    have f575 := o_sta_keep f550 K570 (allS (P := fun a => ∀ cl : Cell, h539[a]? = some cl → cl.vm.isStatics = false) (o_exa_ns A539) all0)
    have f576 := o_sta_keep f551 K570 (allS (P := fun a => ∀ cl : Cell, h539[a]? = some cl → cl.vm.isStatics = false) (o_exa_ns A539) all0)
    have f577 := f552.keep K570 (ninS ne540 nin0)
    have f578 := f553.keep K570
    have f579 := f554.keep K570 (ninS ne541 nin0)
    have f580 := f555.keep K570 (ninS ne541 nin0)
    have f581 := f556.keep K570 (ninS ne542 nin0)
    have f582 := f557.keep K570
    have f583 := f558.keep K570 (ninS ne543 nin0)
    have f584 := f559.keep K570 (ninS ne543 nin0)
    have f585 := f560.keep K570 (ninS ne544 nin0)
    have f586 := f561.keep K570
    have f587 := f562.keep K570 (ninS ne545 nin0)
    have f588 := f563.keep K570 (ninS ne545 nin0)
    have f589 := f564.keep K570 (ninS ne546 nin0)
    have f590 := A539.keep K570
    have zz570 : n0 ≤ T570.heap.size := Nat.le_trans zz539 K570.1
    have K595 : Keep h0 T570.heap [] := K565.trans K570 (allS (P := fun x => x ∈ [] ∨ h0.size ≤ x) (Or.inr sz539) all0)
    show Goes _ _ p e below s _ _ _ (T570.setTop (mkF m 171 #[.val (.int p0), .val (.int p1), .val (.int p2), .val (.int p3), .val (.ref b442), .val (.ref b466), .val (.int (2 : Int32)), .val (.ref s1_491), .val (.ref (o_oc ((p2.toUInt32 >>> (2 : UInt32)).toInt32 &&& (3 : Int32)) x0 x1 x2 x3)), .val (.ref s1_512), .unset, .unset, .unset, .unset, .unset] [(.ref b539)]))
    refine o_astore X570 hx (hb hby at_171) rfl (Ls' := #[.val (.int p0), .val (.int p1), .val (.int p2), .val (.int p3), .val (.ref b442), .val (.ref b466), .val (.int (2 : Int32)), .val (.ref s1_491), .val (.ref (o_oc ((p2.toUInt32 >>> (2 : UInt32)).toInt32 &&& (3 : Int32)) x0 x1 x2 x3)), .val (.ref s1_512), .val (.ref b539), .unset, .unset, .unset, .unset]) rfl (n := 173) rfl ?_
    refine o_aload X570 hx (hb hby at_173) (v := (.ref b539)) rfl rfl (n := 175) rfl ?_
    refine o_callV X570 hx hZ hown (hw _ (List.mem_of_getElem? (i := 71) rfl)) (hw _ (List.mem_of_getElem? (i := 72) rfl)) (hw _ (List.mem_of_getElem? (i := 74) rfl)) (hw _ (List.mem_of_getElem? (i := 73) rfl)) (hw _ (List.mem_of_getElem? (i := 53) rfl)) (hw _ (List.mem_of_getElem? (i := 75) rfl)) (by decide) (rfl : T570.heap = T570.heap) o570_0 (argsL := []) (rest := []) (c_isf0 l Z a0 hw b539 s1_491 T570.heap o570_0 o570_2) 0 (by decide) (by decide) (by decide) (by decide) (by rw [hml]; rfl) (lenOf o_pd20 rfl) rfl (Nat.le_of_eq rfl) (hb hby at_175) (n := 178) rfl ?_
    intro v596 T596 L596 X596 q596
    obtain ⟨rfl, e596, rfl⟩ := q596
    have N597 := Fr.app N571 (Fr.nil n0)
    show Goes _ _ p e below s _ _ _ (T596.setTop (mkF m 178 #[.val (.int p0), .val (.int p1), .val (.int p2), .val (.int p3), .val (.ref b442), .val (.ref b466), .val (.int (2 : Int32)), .val (.ref s1_491), .val (.ref (o_oc ((p2.toUInt32 >>> (2 : UInt32)).toInt32 &&& (3 : Int32)) x0 x1 x2 x3)), .val (.ref s1_512), .val (.ref b539), .unset, .unset, .unset, .unset] [(.int (0 : Int32))]))
    refine o_istore X596 hx (hb hby at_178) (Ls' := #[.val (.int p0), .val (.int p1), .val (.int p2), .val (.int p3), .val (.ref b442), .val (.ref b466), .val (.int (2 : Int32)), .val (.ref s1_491), .val (.ref (o_oc ((p2.toUInt32 >>> (2 : UInt32)).toInt32 &&& (3 : Int32)) x0 x1 x2 x3)), .val (.ref s1_512), .val (.ref b539), .val (.int (0 : Int32)), .unset, .unset, .unset]) rfl (n := 180) rfl ?_
    refine o_iload X596 hx (hb hby at_180) (v := (2 : Int32)) rfl (n := 182) rfl ?_
    refine o_ifY X596 hx (hb hby at_182) (XT.i0_ne_t (by decide)) (by decide) (n := 189) (by decide) ?_
    refine o_iconst X596 hx (hb hby at_189) (v := (0 : Int32)) rfl (n := 190) rfl ?_
    refine o_istore X596 hx (hb hby at_190) (Ls' := #[.val (.int p0), .val (.int p1), .val (.int p2), .val (.int p3), .val (.ref b442), .val (.ref b466), .val (.int (2 : Int32)), .val (.ref s1_491), .val (.ref (o_oc ((p2.toUInt32 >>> (2 : UInt32)).toInt32 &&& (3 : Int32)) x0 x1 x2 x3)), .val (.ref s1_512), .val (.ref b539), .val (.int (0 : Int32)), .val (.int (0 : Int32)), .unset, .unset]) rfl (n := 192) rfl ?_
    refine o_aload X596 hx (hb hby at_192) (v := (.ref b539)) rfl rfl (n := 194) rfl ?_
    refine o_callVW X596 hx hZ hown (hw _ (List.mem_of_getElem? (i := 76) rfl)) (hw _ (List.mem_of_getElem? (i := 77) rfl)) (hw _ (List.mem_of_getElem? (i := 79) rfl)) (hw _ (List.mem_of_getElem? (i := 78) rfl)) (hw _ (List.mem_of_getElem? (i := 53) rfl)) (hw _ (List.mem_of_getElem? (i := 80) rfl)) (by decide) e596 o570_0 (argsL := []) (rest := []) IB0 (c_gvn_1 l Z a0 hw b539 b466 n1_477 kn_477 s1_491 n1_491 kn_491 cs ca.toInt8.toInt32 cb.toInt8.toInt32 cc.toInt8.toInt32 T570.heap o570_0 o570_1 o570_2 f578 f579 f580 f581 f582 f583 f584 f585 f576 hcs (fun b cl q => K595.2.1 b cl (hZ0 ▸ q) nin0) hheld hcw) 0 (by decide) (by decide) (by decide) (by decide) (by rw [hml]; rfl) (lenOf o_pd25 rfl) rfl (Nat.le_of_eq rfl) (hb hby at_194) (n := 197) rfl ?_
    intro v598 T598 L598 X598 S598 hg598 hZ hown IB598 q598
    have X598 : Stand p l e _ (s.setVm T598.vm) m _ below meth c T598 _ _ _ := X598
    have S598 := State.Since.trans S0 S598 (Nat.le_trans (Nat.le_trans (Nat.le_trans (Nat.le_trans (Nat.le_trans (Nat.le_trans (Nat.le_trans (Nat.le_trans (Nat.le_trans (Nat.le_trans (Nat.zero_le _) E442.1) (Nat.le_of_eq W450.size.symm)) (Nat.le_of_eq W458.size.symm)) E466.1) K477.1) K491.1) K512.1) E539.1) K570.1) hg598)
    have hZ : Z.Warmed39 (s.setVm T598.vm).vm := hZ
    have hown : (s.setVm T598.vm).vm.findClass "com/example/estim365/estim365/cli/OptionIsFlagPinLaw" = some m.cls := hown
    obtain ⟨s1_598, n1_598, kn_598, rfl, Nq598, K598, sq598_s1, sq598_n1, o598_0, o598_1, o598_2, o598_3⟩ := q598
    have N599 := Fr.app N597 (o_frw zz570 Nq598)
    have ne600 : b442 ≠ s1_598 := Nat.ne_of_lt (Nat.lt_of_lt_of_le f577.lt sq598_s1)
    have ne601 : b466 ≠ s1_598 := Nat.ne_of_lt (Nat.lt_of_lt_of_le f578.lt sq598_s1)
    have ne602 : n1_477 ≠ s1_598 := Nat.ne_of_lt (Nat.lt_of_lt_of_le f581.lt sq598_s1)
    have ne603 : s1_491 ≠ s1_598 := Nat.ne_of_lt (Nat.lt_of_lt_of_le f582.lt sq598_s1)
    have ne604 : n1_491 ≠ s1_598 := Nat.ne_of_lt (Nat.lt_of_lt_of_le f585.lt sq598_s1)
    have ne605 : s1_512 ≠ s1_598 := Nat.ne_of_lt (Nat.lt_of_lt_of_le f586.lt sq598_s1)
    have ne606 : n1_512 ≠ s1_598 := Nat.ne_of_lt (Nat.lt_of_lt_of_le f589.lt sq598_s1)
    have ne607 : b539 ≠ s1_598 := Nat.ne_of_lt (Nat.lt_of_lt_of_le o570_0.lt sq598_s1)
    have ne608 : b442 ≠ n1_598 := Nat.ne_of_lt (Nat.lt_of_lt_of_le f577.lt sq598_n1)
    have ne609 : b466 ≠ n1_598 := Nat.ne_of_lt (Nat.lt_of_lt_of_le f578.lt sq598_n1)
    have ne610 : n1_477 ≠ n1_598 := Nat.ne_of_lt (Nat.lt_of_lt_of_le f581.lt sq598_n1)
    have ne611 : s1_491 ≠ n1_598 := Nat.ne_of_lt (Nat.lt_of_lt_of_le f582.lt sq598_n1)
    have ne612 : n1_491 ≠ n1_598 := Nat.ne_of_lt (Nat.lt_of_lt_of_le f585.lt sq598_n1)
    have ne613 : s1_512 ≠ n1_598 := Nat.ne_of_lt (Nat.lt_of_lt_of_le f586.lt sq598_n1)
    have ne614 : n1_512 ≠ n1_598 := Nat.ne_of_lt (Nat.lt_of_lt_of_le f589.lt sq598_n1)
    have ne615 : b539 ≠ n1_598 := Nat.ne_of_lt (Nat.lt_of_lt_of_le o570_0.lt sq598_n1)
    have f616 := o_sta_keep f572 K598 all0
    have f617 := o_sta_keep f573 K598 all0
    have f618 := o_sta_keep f574 K598 all0
    have f619 := o_sta_keep f575 K598 all0
    have f620 := o_sta_keep f576 K598 all0
    have f621 := f577.keep K598 nin0
    have f622 := f578.keep K598
    have f623 := f579.keep K598 nin0
    have f624 := f580.keep K598 nin0
    have f625 := f581.keep K598 nin0
    have f626 := f582.keep K598
    have f627 := f583.keep K598 nin0
    have f628 := f584.keep K598 nin0
    have f629 := f585.keep K598 nin0
    have f630 := f586.keep K598
    have f631 := f587.keep K598 nin0
    have f632 := f588.keep K598 nin0
    have f633 := f589.keep K598 nin0
    have f634 := o570_0.keep K598
    have f635 := o570_1.keep K598 nin0
    have f636 := o570_2.keep K598 nin0
    have f637 := o570_3.keep K598 nin0
    have f638 := o570_4.keep K598 nin0
    have zz598 : n0 ≤ T598.heap.size := Nat.le_trans zz570 K598.1
    have K639 : Keep h0 T598.heap [] := K595.trans K598 all0
    show Goes _ _ p e below s _ _ _ (T598.setTop (mkF m 197 #[.val (.int p0), .val (.int p1), .val (.int p2), .val (.int p3), .val (.ref b442), .val (.ref b466), .val (.int (2 : Int32)), .val (.ref s1_491), .val (.ref (o_oc ((p2.toUInt32 >>> (2 : UInt32)).toInt32 &&& (3 : Int32)) x0 x1 x2 x3)), .val (.ref s1_512), .val (.ref b539), .val (.int (0 : Int32)), .val (.int (0 : Int32)), .unset, .unset] [(.ref s1_598)]))
    refine o_aload X598 hx (hb hby at_197) (v := (.ref b466)) rfl rfl (n := 199) rfl ?_
    refine o_callV X598 hx hZ hown (hw _ (List.mem_of_getElem? (i := 195) rfl)) (hw _ (List.mem_of_getElem? (i := 196) rfl)) (hw _ (List.mem_of_getElem? (i := 198) rfl)) (hw _ (List.mem_of_getElem? (i := 197) rfl)) (hw _ (List.mem_of_getElem? (i := 3) rfl)) (hw _ (List.mem_of_getElem? (i := 199) rfl)) (by decide) (rfl : T598.heap = T598.heap) o598_0 (argsL := [(.ref b466)]) (rest := []) (c_eq4 l Z a0 hw s1_598 n1_598 kn_598 ([(.int ca.toInt8.toInt32), (.int cb.toInt8.toInt32), (.int (32 : Int32)), (.int cc.toInt8.toInt32)]) b466 n1_477 kn_477 ([(.int ca.toInt8.toInt32), (.int cb.toInt8.toInt32)]) cs T598.heap o598_0 o598_1 o598_2 o598_3 f622 f623 f624 f625 (Ne.symm ne601) f620 hcs) 0 (by decide) (by decide) (by decide) (by decide) (by rw [hml]; rfl) (lenOf o_pd29 rfl) rfl (Nat.le_of_eq rfl) (hb hby at_199) (n := 202) rfl ?_
    intro v640 T640 L640 X640 q640
    obtain ⟨rfl, e640, rfl⟩ := q640
    have N641 := Fr.app N599 (Fr.nil n0)
    show Goes _ _ p e below s _ _ _ (T640.setTop (mkF m 202 #[.val (.int p0), .val (.int p1), .val (.int p2), .val (.int p3), .val (.ref b442), .val (.ref b466), .val (.int (2 : Int32)), .val (.ref s1_491), .val (.ref (o_oc ((p2.toUInt32 >>> (2 : UInt32)).toInt32 &&& (3 : Int32)) x0 x1 x2 x3)), .val (.ref s1_512), .val (.ref b539), .val (.int (0 : Int32)), .val (.int (0 : Int32)), .unset, .unset] [(.int (0 : Int32))]))
    refine o_istore X640 hx (hb hby at_202) (Ls' := #[.val (.int p0), .val (.int p1), .val (.int p2), .val (.int p3), .val (.ref b442), .val (.ref b466), .val (.int (2 : Int32)), .val (.ref s1_491), .val (.ref (o_oc ((p2.toUInt32 >>> (2 : UInt32)).toInt32 &&& (3 : Int32)) x0 x1 x2 x3)), .val (.ref s1_512), .val (.ref b539), .val (.int (0 : Int32)), .val (.int (0 : Int32)), .val (.int (0 : Int32)), .unset]) rfl (n := 204) rfl ?_
    refine o_aload X640 hx (hb hby at_204) (v := (.ref b466)) rfl rfl (n := 206) rfl ?_
    refine o_aload X640 hx (hb hby at_206) (v := (.ref s1_512)) rfl rfl (n := 208) rfl ?_
    refine o_callS X640 hx hZ hown (hw _ (List.mem_of_getElem? (i := 203) rfl)) (hw _ (List.mem_of_getElem? (i := 204) rfl)) (hw _ (List.mem_of_getElem? (i := 53) rfl)) (hw _ (List.mem_of_getElem? (i := 205) rfl)) (by decide) e640 (argsL := [(.ref b466), (.ref s1_512)]) (rest := []) (c_flag l Z a0 hw b466 s1_512 x1 T598.heap n0 zz598 f617) 0 (by decide) (by decide) (by decide) (by decide) (by rw [hml]; rfl) (lenOf o_pd30 rfl) rfl (Nat.le_of_eq rfl) (hb hby at_208) (n := 211) rfl ?_
    intro v642 T642 L642 X642 q642
    obtain ⟨n1_642, rfl, Nq642, K642, sq642_n1, o642_0, o642_1⟩ := q642
    have N643 := Fr.app N641 Nq642
    have ne644 : b442 ≠ n1_642 := Nat.ne_of_lt (Nat.lt_of_lt_of_le f621.lt sq642_n1)
    have ne645 : b466 ≠ n1_642 := Nat.ne_of_lt (Nat.lt_of_lt_of_le f622.lt sq642_n1)
    have ne646 : n1_477 ≠ n1_642 := Nat.ne_of_lt (Nat.lt_of_lt_of_le f625.lt sq642_n1)
    have ne647 : s1_491 ≠ n1_642 := Nat.ne_of_lt (Nat.lt_of_lt_of_le f626.lt sq642_n1)
    have ne648 : n1_491 ≠ n1_642 := Nat.ne_of_lt (Nat.lt_of_lt_of_le f629.lt sq642_n1)
    have ne649 : s1_512 ≠ n1_642 := Nat.ne_of_lt (Nat.lt_of_lt_of_le f630.lt sq642_n1)
    have ne650 : n1_512 ≠ n1_642 := Nat.ne_of_lt (Nat.lt_of_lt_of_le f633.lt sq642_n1)
    have ne651 : b539 ≠ n1_642 := Nat.ne_of_lt (Nat.lt_of_lt_of_le f634.lt sq642_n1)
    have ne652 : s1_598 ≠ n1_642 := Nat.ne_of_lt (Nat.lt_of_lt_of_le o598_0.lt sq642_n1)
    have ne653 : n1_598 ≠ n1_642 := Nat.ne_of_lt (Nat.lt_of_lt_of_le o598_3.lt sq642_n1)
    have gg642_n1 : n0 ≤ n1_642 := Nat.le_trans zz598 sq642_n1
    have sz642_n1 : h0.size ≤ n1_642 := Nat.le_trans K639.1 sq642_n1
    have f654 := o_sta_keep f616 K642 all0
    have f655 := o_sta_keep f617 K642 all0
    have f656 := o_sta_keep f618 K642 all0
    have f657 := o_sta_keep f619 K642 all0
    have f658 := o_sta_keep f620 K642 all0
    have f659 := f621.keep K642 nin0
    have f660 := f622.keep K642
    have f661 := f623.keep K642 nin0
    have f662 := f624.keep K642 nin0
    have f663 := f625.keep K642 nin0
    have f664 := f626.keep K642
    have f665 := f627.keep K642 nin0
    have f666 := f628.keep K642 nin0
    have f667 := f629.keep K642 nin0
    have f668 := f630.keep K642
    have f669 := f631.keep K642 nin0
    have f670 := f632.keep K642 nin0
    have f671 := f633.keep K642 nin0
    have f672 := f634.keep K642
    have f673 := f635.keep K642 nin0
    have f674 := f636.keep K642 nin0
    have f675 := f637.keep K642 nin0
    have f676 := f638.keep K642 nin0
    have f677 := o598_0.keep K642
    have f678 := o598_1.keep K642 nin0
    have f679 := o598_2.keep K642 nin0
    have f680 := o598_3.keep K642 nin0
    have zz642 : n0 ≤ T642.heap.size := Nat.le_trans zz598 K642.1
    have K681 : Keep h0 T642.heap [] := K639.trans K642 all0
    show Goes _ _ p e below s _ _ _ (T642.setTop (mkF m 211 #[.val (.int p0), .val (.int p1), .val (.int p2), .val (.int p3), .val (.ref b442), .val (.ref b466), .val (.int (2 : Int32)), .val (.ref s1_491), .val (.ref (o_oc ((p2.toUInt32 >>> (2 : UInt32)).toInt32 &&& (3 : Int32)) x0 x1 x2 x3)), .val (.ref s1_512), .val (.ref b539), .val (.int (0 : Int32)), .val (.int (0 : Int32)), .val (.int (0 : Int32)), .unset] [(.ref n1_642)]))
    refine o_callV X642 hx hZ hown (hw _ (List.mem_of_getElem? (i := 71) rfl)) (hw _ (List.mem_of_getElem? (i := 72) rfl)) (hw _ (List.mem_of_getElem? (i := 74) rfl)) (hw _ (List.mem_of_getElem? (i := 73) rfl)) (hw _ (List.mem_of_getElem? (i := 53) rfl)) (hw _ (List.mem_of_getElem? (i := 75) rfl)) (by decide) (rfl : T642.heap = T642.heap) o642_0 (argsL := []) (rest := []) (c_isf1 l Z a0 hw n1_642 T642.heap o642_0 o642_1) 0 (by decide) (by decide) (by decide) (by decide) (by rw [hml]; rfl) (lenOf o_pd20 rfl) rfl (Nat.le_of_eq rfl) (hb hby at_211) (n := 214) rfl ?_
    intro v682 T682 L682 X682 q682
    obtain ⟨rfl, e682, rfl⟩ := q682
    have N683 := Fr.app N643 (Fr.nil n0)
    show Goes _ _ p e below s _ _ _ (T682.setTop (mkF m 214 #[.val (.int p0), .val (.int p1), .val (.int p2), .val (.int p3), .val (.ref b442), .val (.ref b466), .val (.int (2 : Int32)), .val (.ref s1_491), .val (.ref (o_oc ((p2.toUInt32 >>> (2 : UInt32)).toInt32 &&& (3 : Int32)) x0 x1 x2 x3)), .val (.ref s1_512), .val (.ref b539), .val (.int (0 : Int32)), .val (.int (0 : Int32)), .val (.int (0 : Int32)), .unset] [(.int (1 : Int32))]))
    refine o_istore X682 hx (hb hby at_214) (Ls' := #[.val (.int p0), .val (.int p1), .val (.int p2), .val (.int p3), .val (.ref b442), .val (.ref b466), .val (.int (2 : Int32)), .val (.ref s1_491), .val (.ref (o_oc ((p2.toUInt32 >>> (2 : UInt32)).toInt32 &&& (3 : Int32)) x0 x1 x2 x3)), .val (.ref s1_512), .val (.ref b539), .val (.int (0 : Int32)), .val (.int (0 : Int32)), .val (.int (0 : Int32)), .val (.int (1 : Int32))]) rfl (n := 216) rfl ?_
    refine o_iload X682 hx (hb hby at_216) (v := (0 : Int32)) rfl (n := 218) rfl ?_
    refine o_iload X682 hx (hb hby at_218) (v := (0 : Int32)) rfl (n := 220) rfl ?_
    refine o_icmpN X682 hx (hb hby at_220) (XT.ii_ne_f (by decide)) (n := 223) rfl ?_
    refine o_iload X682 hx (hb hby at_223) (v := (0 : Int32)) rfl (n := 225) rfl ?_
    refine o_iload X682 hx (hb hby at_225) (v := (0 : Int32)) rfl (n := 227) rfl ?_
    refine o_icmpN X682 hx (hb hby at_227) (XT.ii_ne_f (by decide)) (n := 230) rfl ?_
    refine o_iload X682 hx (hb hby at_230) (v := (1 : Int32)) rfl (n := 232) rfl ?_
    refine o_ifN X682 hx (hb hby at_232) (XT.i0_eq_f (by decide)) (n := 235) rfl ?_
    refine o_iconst X682 hx (hb hby at_235) (v := (1 : Int32)) rfl (n := 236) rfl ?_
    refine o_goto X682 hx (hb hby at_236) (by decide) (n := 240) (by decide) ?_
    exact o_nreturnW X682 hx S598 (Nat.le_trans (Nat.le_refl _) K642.1) hret hlk (t := .boolean) (by simp) (hb hby at_240) (by decide) (by decide) e682 (fun _ _ => trivial) ⟨rfl, N683⟩
  · refine o_iconst X0 hx (hb hby at_0) (v := (2 : Int32)) rfl (n := 1) rfl ?_
    refine o_newarray X0 hx hZ (aty := .char) (hw _ (List.mem_of_getElem? (i := 0) rfl)) e0 (hb hby at_1) (by decide) 2 (by decide) (by decide) (by decide) (by decide) (n := 3) rfl ?_
    intro T684 h684 b684 k684 X684 e684 g684 E684 V684
    have gg684 : n0 ≤ b684 := Nat.le_trans Z0 (Nat.le_of_eq g684.symm)
    have zz684 : n0 ≤ h684.size := Nat.le_trans Z0 E684.1
    have sz684 : h0.size ≤ b684 := Nat.le_trans (Keep.refl h0 []).1 (Nat.le_of_eq g684.symm)
    have f685 := pS_REQUIRED.ext E684
    have f686 := pS_OPTIONAL.ext E684
    have f687 := pS_REPEATED.ext E684
    have f688 := pS_OPTIONAL_REPEATED.ext E684
    have f689 := pS_COMPACT_STRINGS.ext E684
    have K690 : Keep h0 h684 [] := (Keep.refl h0 []).ext E684
    have f691 : Arv Z h684 b684 k684 .char (2 : Int32) [(.int (0 : Int32)), (.int (0 : Int32))] (.int (0 : Int32)) := V684.pad (pad_rep [] (.int (0 : Int32)) 2)
    refine o_astore X684 hx (hb hby at_3) rfl (Ls' := #[.val (.int p0), .val (.int p1), .val (.int p2), .val (.int p3), .val (.ref b684), .unset, .unset, .unset, .unset, .unset, .unset, .unset, .unset, .unset, .unset]) rfl (n := 5) rfl ?_
    refine o_aload X684 hx (hb hby at_5) (v := (.ref b684)) rfl rfl (n := 7) rfl ?_
    refine o_iconst X684 hx (hb hby at_7) (v := (0 : Int32)) rfl (n := 8) rfl ?_
    refine o_iloadN X684 hx (hb hby at_8) (v := p0) rfl (n := 9) rfl ?_
    refine o_sipush X684 hx (hb hby at_9) (v := (255 : Int32)) rfl (n := 12) rfl ?_
    refine o_iand X684 hx (hb hby at_12) (v := (p0 &&& (255 : Int32))) rfl (n := 13) rfl ?_
    refine o_i2c X684 hx (hb hby at_13) (v := ca) hca (n := 14) rfl ?_
    refine o_castore X684 hx hZ e684 f691 (0) (by decide) (by decide) (Nat.le_of_ble_eq_true rfl) (w := (.int ca)) (congrArg Value.int nca) (vs' := [(.int ca), (.int (0 : Int32))]) rfl (o_fitC _) (hb hby at_14) (n := 15) rfl ?_
    intro T692 h692 X692 e692 W692 V692
    have f693 := f685.wr W692
    have f694 := f686.wr W692
    have f695 := f687.wr W692
    have f696 := f688.wr W692
    have f697 := f689.wr W692
    have zz692 : n0 ≤ h692.size := Nat.le_trans zz684 (Nat.le_of_eq W692.size.symm)
    have N698 := Fr.snoc X692 N0 gg684
    have K699 : Keep h0 h692 [] := K690.wr W692 (Or.inr sz684)
    refine o_aload X692 hx (hb hby at_15) (v := (.ref b684)) rfl rfl (n := 17) rfl ?_
    refine o_iconst X692 hx (hb hby at_17) (v := (1 : Int32)) rfl (n := 18) rfl ?_
    refine o_iloadN X692 hx (hb hby at_18) (v := p0) rfl (n := 19) rfl ?_
    refine o_bipush X692 hx (hb hby at_19) (v := (8 : Int32)) rfl (n := 21) rfl ?_
    refine o_iushr X692 hx (hb hby at_21) (v := (p0.toUInt32 >>> (8 : UInt32)).toInt32) (congrArg (fun q : UInt32 => (p0.toUInt32 >>> q).toInt32) (show ((8 : Int32) &&& 31).toUInt32 = 8 by decide)) (n := 22) rfl ?_
    refine o_sipush X692 hx (hb hby at_22) (v := (255 : Int32)) rfl (n := 25) rfl ?_
    refine o_iand X692 hx (hb hby at_25) (v := ((p0.toUInt32 >>> (8 : UInt32)).toInt32 &&& (255 : Int32))) rfl (n := 26) rfl ?_
    refine o_i2c X692 hx (hb hby at_26) (v := cb) hcb (n := 27) rfl ?_
    refine o_castore X692 hx hZ e692 V692 (1) (by decide) (by decide) (Nat.le_of_ble_eq_true rfl) (w := (.int cb)) (congrArg Value.int ncb) (vs' := [(.int ca), (.int cb)]) rfl (o_fitC _) (hb hby at_27) (n := 28) rfl ?_
    intro T700 h700 X700 e700 W700 V700
    have f701 := f693.wr W700
    have f702 := f694.wr W700
    have f703 := f695.wr W700
    have f704 := f696.wr W700
    have f705 := f697.wr W700
    have zz700 : n0 ≤ h700.size := Nat.le_trans zz692 (Nat.le_of_eq W700.size.symm)
    have N706 := Fr.snoc X700 N698 gg684
    have K707 : Keep h0 h700 [] := K699.wr W700 (Or.inr sz684)
    refine o_new X700 hx hZ hown (hw _ (List.mem_of_getElem? (i := 1) rfl)) (hw _ (List.mem_of_getElem? (i := 2) rfl)) (hw _ (List.mem_of_getElem? (i := 3) rfl)) e700 (hb hby at_28) (by decide) (by decide) (n := 31) rfl ?_
    intro T708 h708 b708 X708 e708 g708 E708 A708 D708
    have ne709 : b684 ≠ b708 := Nat.ne_of_lt (Nat.lt_of_lt_of_eq V700.lt g708.symm)
    have gg708 : n0 ≤ b708 := Nat.le_trans zz700 (Nat.le_of_eq g708.symm)
    have zz708 : n0 ≤ h708.size := Nat.le_trans zz700 E708.1
    have sz708 : h0.size ≤ b708 := Nat.le_trans K707.1 (Nat.le_of_eq g708.symm)
    have f710 := f701.ext E708
    have f711 := f702.ext E708
    have f712 := f703.ext E708
    have f713 := f704.ext E708
    have f714 := f705.ext E708
    have f715 := V700.ext E708
    have K716 : Keep h0 h708 [] := K707.ext E708
    have f717 : Fld Z h708 b708 "java/lang/String" "coder" "B" (.int (0 : Int32)) := D708 (Or.inr (hw _ (List.mem_of_getElem? (i := 27) rfl))) (ty := .byte) (by decide)
    have f718 : Fld Z h708 b708 "java/lang/String" "value" "[B" .null := D708 (Or.inr (hw _ (List.mem_of_getElem? (i := 29) rfl))) (ty := (.array .byte)) (by decide)
    refine o_dup X708 hx (hb hby at_31) rfl (n := 32) rfl ?_
    refine o_aload X708 hx (hb hby at_32) (v := (.ref b684)) rfl rfl (n := 34) rfl ?_
    refine o_callN X708 hx hZ rfl hown (hw _ (List.mem_of_getElem? (i := 4) rfl)) (hw _ (List.mem_of_getElem? (i := 5) rfl)) (hw _ (List.mem_of_getElem? (i := 3) rfl)) (hw _ (List.mem_of_getElem? (i := 6) rfl)) (by decide) e708 (a := b708) (argsL := [(.ref b684)]) (rest := [(.ref b708)]) (c_in1 l Z a0 hw b708 b684 k684 ca cb cs h708 n0 zz708 gg708 A708 f717 f718 f715 (Ne.symm ne709) f714 qca qcb hcs) 1 (by decide) (by decide) (by decide) (by decide) (by rw [hml]; rfl) (lenOf o_pd26 rfl) rfl (Nat.le_of_eq rfl) (hb hby at_34) (n := 37) rfl ?_
    intro v719 T719 L719 X719 q719
    obtain ⟨n1_719, kn_719, rfl, Nq719, K719, sq719_n1, o719_0, o719_1, o719_2, o719_3⟩ := q719
    have N720 := Fr.app N706 Nq719
    have ne721 : b684 ≠ n1_719 := Nat.ne_of_lt (Nat.lt_of_lt_of_le f715.lt sq719_n1)
    have ne722 : b708 ≠ n1_719 := Nat.ne_of_lt (Nat.lt_of_lt_of_le A708.lt sq719_n1)
    have gg719_n1 : n0 ≤ n1_719 := Nat.le_trans zz708 sq719_n1
    have sz719_n1 : h0.size ≤ n1_719 := Nat.le_trans K716.1 sq719_n1
    have f723 := o_sta_keep f710 K719 (allS (P := fun a => ∀ cl : Cell, h708[a]? = some cl → cl.vm.isStatics = false) (o_exa_ns A708) all0)
    have f724 := o_sta_keep f711 K719 (allS (P := fun a => ∀ cl : Cell, h708[a]? = some cl → cl.vm.isStatics = false) (o_exa_ns A708) all0)
    have f725 := o_sta_keep f712 K719 (allS (P := fun a => ∀ cl : Cell, h708[a]? = some cl → cl.vm.isStatics = false) (o_exa_ns A708) all0)
    have f726 := o_sta_keep f713 K719 (allS (P := fun a => ∀ cl : Cell, h708[a]? = some cl → cl.vm.isStatics = false) (o_exa_ns A708) all0)
    have f727 := o_sta_keep f714 K719 (allS (P := fun a => ∀ cl : Cell, h708[a]? = some cl → cl.vm.isStatics = false) (o_exa_ns A708) all0)
    have f728 := f715.keep K719 (ninS ne709 nin0)
    have f729 := A708.keep K719
    have zz719 : n0 ≤ T719.heap.size := Nat.le_trans zz708 K719.1
    have K732 : Keep h0 T719.heap [] := K716.trans K719 (allS (P := fun x => x ∈ [] ∨ h0.size ≤ x) (Or.inr sz708) all0)
    show Goes _ _ p e below s _ _ _ (T719.setTop (mkF m 37 #[.val (.int p0), .val (.int p1), .val (.int p2), .val (.int p3), .val (.ref b684), .unset, .unset, .unset, .unset, .unset, .unset, .unset, .unset, .unset, .unset] [(.ref b708)]))
    refine o_astore X719 hx (hb hby at_37) rfl (Ls' := #[.val (.int p0), .val (.int p1), .val (.int p2), .val (.int p3), .val (.ref b684), .val (.ref b708), .unset, .unset, .unset, .unset, .unset, .unset, .unset, .unset, .unset]) rfl (n := 39) rfl ?_
    refine o_iloadN X719 hx (hb hby at_39) (v := p2) rfl (n := 40) rfl ?_
    refine o_iconst X719 hx (hb hby at_40) (v := (3 : Int32)) rfl (n := 41) rfl ?_
    refine o_iand X719 hx (hb hby at_41) (v := (3 : Int32)) q (n := 42) rfl ?_
    refine o_istore X719 hx (hb hby at_42) (Ls' := #[.val (.int p0), .val (.int p1), .val (.int p2), .val (.int p3), .val (.ref b684), .val (.ref b708), .val (.int (3 : Int32)), .unset, .unset, .unset, .unset, .unset, .unset, .unset, .unset]) rfl (n := 44) rfl ?_
    refine o_iload X719 hx (hb hby at_44) (v := (3 : Int32)) rfl (n := 46) rfl ?_
    refine o_ifY X719 hx (hb hby at_46) (XT.i0_ne_t (by decide)) (by decide) (n := 55) (by decide) ?_
    refine o_iload X719 hx (hb hby at_55) (v := (3 : Int32)) rfl (n := 57) rfl ?_
    refine o_iconst X719 hx (hb hby at_57) (v := (1 : Int32)) rfl (n := 58) rfl ?_
    refine o_icmpY X719 hx (hb hby at_58) (XT.ii_ne_t (by decide)) (by decide) (n := 76) (by decide) ?_
    refine o_iload X719 hx (hb hby at_76) (v := (3 : Int32)) rfl (n := 78) rfl ?_
    refine o_iconst X719 hx (hb hby at_78) (v := (2 : Int32)) rfl (n := 79) rfl ?_
    refine o_icmpY X719 hx (hb hby at_79) (XT.ii_ne_t (by decide)) (by decide) (n := 96) (by decide) ?_
    refine o_iconst X719 hx (hb hby at_96) (v := (2 : Int32)) rfl (n := 97) rfl ?_
    refine o_newarray X719 hx hZ (aty := .char) (hw _ (List.mem_of_getElem? (i := 0) rfl)) (rfl : T719.heap = T719.heap) (hb hby at_97) (by decide) 2 (by decide) (by decide) (by decide) (by decide) (n := 99) rfl ?_
    intro T733 h733 b733 k733 X733 e733 g733 E733 V733
    have ne734 : b684 ≠ b733 := Nat.ne_of_lt (Nat.lt_of_lt_of_eq f728.lt g733.symm)
    have ne735 : b708 ≠ b733 := Nat.ne_of_lt (Nat.lt_of_lt_of_eq o719_0.lt g733.symm)
    have ne736 : n1_719 ≠ b733 := Nat.ne_of_lt (Nat.lt_of_lt_of_eq o719_3.lt g733.symm)
    have gg733 : n0 ≤ b733 := Nat.le_trans zz719 (Nat.le_of_eq g733.symm)
    have zz733 : n0 ≤ h733.size := Nat.le_trans zz719 E733.1
    have sz733 : h0.size ≤ b733 := Nat.le_trans K732.1 (Nat.le_of_eq g733.symm)
    have f737 := f723.ext E733
    have f738 := f724.ext E733
    have f739 := f725.ext E733
    have f740 := f726.ext E733
    have f741 := f727.ext E733
    have f742 := f728.ext E733
    have f743 := o719_0.ext E733
    have f744 := o719_1.ext E733
    have f745 := o719_2.ext E733
    have f746 := o719_3.ext E733
    have K747 : Keep h0 h733 [] := K732.ext E733
    have f748 : Arv Z h733 b733 k733 .char (2 : Int32) [(.int (0 : Int32)), (.int (0 : Int32))] (.int (0 : Int32)) := V733.pad (pad_rep [] (.int (0 : Int32)) 2)
    refine o_astore X733 hx (hb hby at_99) rfl (Ls' := #[.val (.int p0), .val (.int p1), .val (.int p2), .val (.int p3), .val (.ref b684), .val (.ref b708), .val (.int (3 : Int32)), .unset, .val (.ref b733), .unset, .unset, .unset, .unset, .unset, .unset]) rfl (n := 101) rfl ?_
    refine o_aload X733 hx (hb hby at_101) (v := (.ref b733)) rfl rfl (n := 103) rfl ?_
    refine o_iconst X733 hx (hb hby at_103) (v := (0 : Int32)) rfl (n := 104) rfl ?_
    refine o_iloadN X733 hx (hb hby at_104) (v := p1) rfl (n := 105) rfl ?_
    refine o_sipush X733 hx (hb hby at_105) (v := (255 : Int32)) rfl (n := 108) rfl ?_
    refine o_iand X733 hx (hb hby at_108) (v := (p1 &&& (255 : Int32))) rfl (n := 109) rfl ?_
    refine o_i2c X733 hx (hb hby at_109) (v := cc) hcc (n := 110) rfl ?_
    refine o_castore X733 hx hZ e733 f748 (0) (by decide) (by decide) (Nat.le_of_ble_eq_true rfl) (w := (.int cc)) (congrArg Value.int ncc) (vs' := [(.int cc), (.int (0 : Int32))]) rfl (o_fitC _) (hb hby at_110) (n := 111) rfl ?_
    intro T749 h749 X749 e749 W749 V749
    have f750 := f737.wr W749
    have f751 := f738.wr W749
    have f752 := f739.wr W749
    have f753 := f740.wr W749
    have f754 := f741.wr W749
    have f755 := f742.other W749 ne734
    have f756 := f743.wr W749
    have f757 := f744.other W749 (Or.inl ne735)
    have f758 := f745.other W749 (Or.inl ne735)
    have f759 := f746.other W749 ne736
    have zz749 : n0 ≤ h749.size := Nat.le_trans zz733 (Nat.le_of_eq W749.size.symm)
    have N760 := Fr.snoc X749 N720 gg733
    have K761 : Keep h0 h749 [] := K747.wr W749 (Or.inr sz733)
    refine o_aload X749 hx (hb hby at_111) (v := (.ref b733)) rfl rfl (n := 113) rfl ?_
    refine o_iconst X749 hx (hb hby at_113) (v := (1 : Int32)) rfl (n := 114) rfl ?_
    refine o_iloadN X749 hx (hb hby at_114) (v := p1) rfl (n := 115) rfl ?_
    refine o_bipush X749 hx (hb hby at_115) (v := (8 : Int32)) rfl (n := 117) rfl ?_
    refine o_iushr X749 hx (hb hby at_117) (v := (p1.toUInt32 >>> (8 : UInt32)).toInt32) (congrArg (fun q : UInt32 => (p1.toUInt32 >>> q).toInt32) (show ((8 : Int32) &&& 31).toUInt32 = 8 by decide)) (n := 118) rfl ?_
    refine o_sipush X749 hx (hb hby at_118) (v := (255 : Int32)) rfl (n := 121) rfl ?_
    refine o_iand X749 hx (hb hby at_121) (v := ((p1.toUInt32 >>> (8 : UInt32)).toInt32 &&& (255 : Int32))) rfl (n := 122) rfl ?_
    refine o_i2c X749 hx (hb hby at_122) (v := cd) hcd (n := 123) rfl ?_
    refine o_castore X749 hx hZ e749 V749 (1) (by decide) (by decide) (Nat.le_of_ble_eq_true rfl) (w := (.int cd)) (congrArg Value.int ncd) (vs' := [(.int cc), (.int cd)]) rfl (o_fitC _) (hb hby at_123) (n := 124) rfl ?_
    intro T762 h762 X762 e762 W762 V762
    have f763 := f750.wr W762
    have f764 := f751.wr W762
    have f765 := f752.wr W762
    have f766 := f753.wr W762
    have f767 := f754.wr W762
    have f768 := f755.other W762 ne734
    have f769 := f756.wr W762
    have f770 := f757.other W762 (Or.inl ne735)
    have f771 := f758.other W762 (Or.inl ne735)
    have f772 := f759.other W762 ne736
    have zz762 : n0 ≤ h762.size := Nat.le_trans zz749 (Nat.le_of_eq W762.size.symm)
    have N773 := Fr.snoc X762 N760 gg733
    have K774 : Keep h0 h762 [] := K761.wr W762 (Or.inr sz733)
    refine o_new X762 hx hZ hown (hw _ (List.mem_of_getElem? (i := 1) rfl)) (hw _ (List.mem_of_getElem? (i := 2) rfl)) (hw _ (List.mem_of_getElem? (i := 3) rfl)) e762 (hb hby at_124) (by decide) (by decide) (n := 127) rfl ?_
    intro T775 h775 b775 X775 e775 g775 E775 A775 D775
    have ne776 : b684 ≠ b775 := Nat.ne_of_lt (Nat.lt_of_lt_of_eq f768.lt g775.symm)
    have ne777 : b708 ≠ b775 := Nat.ne_of_lt (Nat.lt_of_lt_of_eq f769.lt g775.symm)
    have ne778 : n1_719 ≠ b775 := Nat.ne_of_lt (Nat.lt_of_lt_of_eq f772.lt g775.symm)
    have ne779 : b733 ≠ b775 := Nat.ne_of_lt (Nat.lt_of_lt_of_eq V762.lt g775.symm)
    have gg775 : n0 ≤ b775 := Nat.le_trans zz762 (Nat.le_of_eq g775.symm)
    have zz775 : n0 ≤ h775.size := Nat.le_trans zz762 E775.1
    have sz775 : h0.size ≤ b775 := Nat.le_trans K774.1 (Nat.le_of_eq g775.symm)
    have f780 := f763.ext E775
    have f781 := f764.ext E775
    have f782 := f765.ext E775
    have f783 := f766.ext E775
    have f784 := f767.ext E775
    have f785 := f768.ext E775
    have f786 := f769.ext E775
    have f787 := f770.ext E775
    have f788 := f771.ext E775
    have f789 := f772.ext E775
    have f790 := V762.ext E775
    have K791 : Keep h0 h775 [] := K774.ext E775
    have f792 : Fld Z h775 b775 "java/lang/String" "coder" "B" (.int (0 : Int32)) := D775 (Or.inr (hw _ (List.mem_of_getElem? (i := 27) rfl))) (ty := .byte) (by decide)
    have f793 : Fld Z h775 b775 "java/lang/String" "value" "[B" .null := D775 (Or.inr (hw _ (List.mem_of_getElem? (i := 29) rfl))) (ty := (.array .byte)) (by decide)
    refine o_dup X775 hx (hb hby at_127) rfl (n := 128) rfl ?_
    refine o_aload X775 hx (hb hby at_128) (v := (.ref b733)) rfl rfl (n := 130) rfl ?_
    refine o_callN X775 hx hZ rfl hown (hw _ (List.mem_of_getElem? (i := 4) rfl)) (hw _ (List.mem_of_getElem? (i := 5) rfl)) (hw _ (List.mem_of_getElem? (i := 3) rfl)) (hw _ (List.mem_of_getElem? (i := 6) rfl)) (by decide) e775 (a := b775) (argsL := [(.ref b733)]) (rest := [(.ref b775)]) (c_in1 l Z a0 hw b775 b733 k733 cc cd cs h775 n0 zz775 gg775 A775 f792 f793 f790 (Ne.symm ne779) f784 qcc qcd hcs) 1 (by decide) (by decide) (by decide) (by decide) (by rw [hml]; rfl) (lenOf o_pd26 rfl) rfl (Nat.le_of_eq rfl) (hb hby at_130) (n := 133) rfl ?_
    intro v794 T794 L794 X794 q794
    obtain ⟨n1_794, kn_794, rfl, Nq794, K794, sq794_n1, o794_0, o794_1, o794_2, o794_3⟩ := q794
    have N795 := Fr.app N773 Nq794
    have ne796 : b684 ≠ n1_794 := Nat.ne_of_lt (Nat.lt_of_lt_of_le f785.lt sq794_n1)
    have ne797 : b708 ≠ n1_794 := Nat.ne_of_lt (Nat.lt_of_lt_of_le f786.lt sq794_n1)
    have ne798 : n1_719 ≠ n1_794 := Nat.ne_of_lt (Nat.lt_of_lt_of_le f789.lt sq794_n1)
    have ne799 : b733 ≠ n1_794 := Nat.ne_of_lt (Nat.lt_of_lt_of_le f790.lt sq794_n1)
    have ne800 : b775 ≠ n1_794 := Nat.ne_of_lt (Nat.lt_of_lt_of_le A775.lt sq794_n1)
    have gg794_n1 : n0 ≤ n1_794 := Nat.le_trans zz775 sq794_n1
    have sz794_n1 : h0.size ≤ n1_794 := Nat.le_trans K791.1 sq794_n1
    have f801 := o_sta_keep f780 K794 (allS (P := fun a => ∀ cl : Cell, h775[a]? = some cl → cl.vm.isStatics = false) (o_exa_ns A775) all0)
    have f802 := o_sta_keep f781 K794 (allS (P := fun a => ∀ cl : Cell, h775[a]? = some cl → cl.vm.isStatics = false) (o_exa_ns A775) all0)
    have f803 := o_sta_keep f782 K794 (allS (P := fun a => ∀ cl : Cell, h775[a]? = some cl → cl.vm.isStatics = false) (o_exa_ns A775) all0)
    have f804 := o_sta_keep f783 K794 (allS (P := fun a => ∀ cl : Cell, h775[a]? = some cl → cl.vm.isStatics = false) (o_exa_ns A775) all0)
    have f805 := o_sta_keep f784 K794 (allS (P := fun a => ∀ cl : Cell, h775[a]? = some cl → cl.vm.isStatics = false) (o_exa_ns A775) all0)
    have f806 := f785.keep K794 (ninS ne776 nin0)
    have f807 := f786.keep K794
    have f808 := f787.keep K794 (ninS ne777 nin0)
    have f809 := f788.keep K794 (ninS ne777 nin0)
    have f810 := f789.keep K794 (ninS ne778 nin0)
    have f811 := f790.keep K794 (ninS ne779 nin0)
    have f812 := A775.keep K794
    have zz794 : n0 ≤ T794.heap.size := Nat.le_trans zz775 K794.1
    have K815 : Keep h0 T794.heap [] := K791.trans K794 (allS (P := fun x => x ∈ [] ∨ h0.size ≤ x) (Or.inr sz775) all0)
    show Goes _ _ p e below s _ _ _ (T794.setTop (mkF m 133 #[.val (.int p0), .val (.int p1), .val (.int p2), .val (.int p3), .val (.ref b684), .val (.ref b708), .val (.int (3 : Int32)), .unset, .val (.ref b733), .unset, .unset, .unset, .unset, .unset, .unset] [(.ref b775)]))
    refine o_astore X794 hx (hb hby at_133) rfl (Ls' := #[.val (.int p0), .val (.int p1), .val (.int p2), .val (.int p3), .val (.ref b684), .val (.ref b708), .val (.int (3 : Int32)), .val (.ref b775), .val (.ref b733), .unset, .unset, .unset, .unset, .unset, .unset]) rfl (n := 135) rfl ?_
    refine o_iloadN X794 hx (hb hby at_135) (v := p2) rfl (n := 136) rfl ?_
    refine o_iconst X794 hx (hb hby at_136) (v := (2 : Int32)) rfl (n := 137) rfl ?_
    refine o_iushr X794 hx (hb hby at_137) (v := (p2.toUInt32 >>> (2 : UInt32)).toInt32) (congrArg (fun q : UInt32 => (p2.toUInt32 >>> q).toInt32) (show ((2 : Int32) &&& 31).toUInt32 = 2 by decide)) (n := 138) rfl ?_
    refine o_iconst X794 hx (hb hby at_138) (v := (3 : Int32)) rfl (n := 139) rfl ?_
    refine o_iand X794 hx (hb hby at_139) (v := ((p2.toUInt32 >>> (2 : UInt32)).toInt32 &&& (3 : Int32))) rfl (n := 140) rfl ?_
    refine o_callS X794 hx hZ hown (hw _ (List.mem_of_getElem? (i := 44) rfl)) (hw _ (List.mem_of_getElem? (i := 45) rfl)) (hw _ (List.mem_of_getElem? (i := 46) rfl)) (hw _ (List.mem_of_getElem? (i := 47) rfl)) (by decide) (rfl : T794.heap = T794.heap) (argsL := [(.int ((p2.toUInt32 >>> (2 : UInt32)).toInt32 &&& (3 : Int32)))]) (rest := []) (c_occ l Z a0 hw ((p2.toUInt32 >>> (2 : UInt32)).toInt32 &&& (3 : Int32)) x0 x1 x2 x3 T794.heap f801 f802 f803 f804) 0 (by decide) (by decide) (by decide) (by decide) (by rw [hml]; rfl) (lenOf o_pd27 rfl) rfl (Nat.le_of_eq rfl) (hb hby at_140) (n := 143) rfl ?_
    intro v816 T816 L816 X816 q816
    obtain ⟨rfl, e816, rfl⟩ := q816
    have N817 := Fr.app N795 (Fr.nil n0)
    show Goes _ _ p e below s _ _ _ (T816.setTop (mkF m 143 #[.val (.int p0), .val (.int p1), .val (.int p2), .val (.int p3), .val (.ref b684), .val (.ref b708), .val (.int (3 : Int32)), .val (.ref b775), .val (.ref b733), .unset, .unset, .unset, .unset, .unset, .unset] [(.ref (o_oc ((p2.toUInt32 >>> (2 : UInt32)).toInt32 &&& (3 : Int32)) x0 x1 x2 x3))]))
    refine o_astore X816 hx (hb hby at_143) rfl (Ls' := #[.val (.int p0), .val (.int p1), .val (.int p2), .val (.int p3), .val (.ref b684), .val (.ref b708), .val (.int (3 : Int32)), .val (.ref b775), .val (.ref (o_oc ((p2.toUInt32 >>> (2 : UInt32)).toInt32 &&& (3 : Int32)) x0 x1 x2 x3)), .unset, .unset, .unset, .unset, .unset, .unset]) rfl (n := 145) rfl ?_
    refine o_iloadN X816 hx (hb hby at_145) (v := p3) rfl (n := 146) rfl ?_
    refine o_sipush X816 hx (hb hby at_146) (v := (255 : Int32)) rfl (n := 149) rfl ?_
    refine o_iand X816 hx (hb hby at_149) (v := (p3 &&& (255 : Int32))) rfl (n := 150) rfl ?_
    refine o_i2c X816 hx (hb hby at_150) (v := ce) hce (n := 151) rfl ?_
    refine o_callS X816 hx hZ hown (hw _ (List.mem_of_getElem? (i := 30) rfl)) (hw _ (List.mem_of_getElem? (i := 31) rfl)) (hw _ (List.mem_of_getElem? (i := 3) rfl)) (hw _ (List.mem_of_getElem? (i := 32) rfl)) (by decide) e816 (argsL := [(.int ce)]) (rest := []) (c_val l Z a0 hw ce cs T794.heap n0 zz794 f805 qce hcs) 0 (by decide) (by decide) (by decide) (by decide) (by rw [hml]; rfl) (lenOf o_pd28 rfl) rfl (Nat.le_of_eq rfl) (hb hby at_151) (n := 154) rfl ?_
    intro v818 T818 L818 X818 q818
    obtain ⟨s1_818, n1_818, kn_818, rfl, Nq818, K818, sq818_s1, sq818_n1, nq818_s1_n1, o818_0, o818_1, o818_2, o818_3⟩ := q818
    have N819 := Fr.app N817 Nq818
    have ne820 : b684 ≠ s1_818 := Nat.ne_of_lt (Nat.lt_of_lt_of_le f806.lt sq818_s1)
    have ne821 : b708 ≠ s1_818 := Nat.ne_of_lt (Nat.lt_of_lt_of_le f807.lt sq818_s1)
    have ne822 : n1_719 ≠ s1_818 := Nat.ne_of_lt (Nat.lt_of_lt_of_le f810.lt sq818_s1)
    have ne823 : b733 ≠ s1_818 := Nat.ne_of_lt (Nat.lt_of_lt_of_le f811.lt sq818_s1)
    have ne824 : b775 ≠ s1_818 := Nat.ne_of_lt (Nat.lt_of_lt_of_le o794_0.lt sq818_s1)
    have ne825 : n1_794 ≠ s1_818 := Nat.ne_of_lt (Nat.lt_of_lt_of_le o794_3.lt sq818_s1)
    have gg818_s1 : n0 ≤ s1_818 := Nat.le_trans zz794 sq818_s1
    have sz818_s1 : h0.size ≤ s1_818 := Nat.le_trans K815.1 sq818_s1
    have ne826 : b684 ≠ n1_818 := Nat.ne_of_lt (Nat.lt_of_lt_of_le f806.lt sq818_n1)
    have ne827 : b708 ≠ n1_818 := Nat.ne_of_lt (Nat.lt_of_lt_of_le f807.lt sq818_n1)
    have ne828 : n1_719 ≠ n1_818 := Nat.ne_of_lt (Nat.lt_of_lt_of_le f810.lt sq818_n1)
    have ne829 : b733 ≠ n1_818 := Nat.ne_of_lt (Nat.lt_of_lt_of_le f811.lt sq818_n1)
    have ne830 : b775 ≠ n1_818 := Nat.ne_of_lt (Nat.lt_of_lt_of_le o794_0.lt sq818_n1)
    have ne831 : n1_794 ≠ n1_818 := Nat.ne_of_lt (Nat.lt_of_lt_of_le o794_3.lt sq818_n1)
    have gg818_n1 : n0 ≤ n1_818 := Nat.le_trans zz794 sq818_n1
    have sz818_n1 : h0.size ≤ n1_818 := Nat.le_trans K815.1 sq818_n1
    have f832 := o_sta_keep f801 K818 all0
    have f833 := o_sta_keep f802 K818 all0
    have f834 := o_sta_keep f803 K818 all0
    have f835 := o_sta_keep f804 K818 all0
    have f836 := o_sta_keep f805 K818 all0
    have f837 := f806.keep K818 nin0
    have f838 := f807.keep K818
    have f839 := f808.keep K818 nin0
    have f840 := f809.keep K818 nin0
    have f841 := f810.keep K818 nin0
    have f842 := f811.keep K818 nin0
    have f843 := o794_0.keep K818
    have f844 := o794_1.keep K818 nin0
    have f845 := o794_2.keep K818 nin0
    have f846 := o794_3.keep K818 nin0
    have zz818 : n0 ≤ T818.heap.size := Nat.le_trans zz794 K818.1
    have K847 : Keep h0 T818.heap [] := K815.trans K818 all0
    show Goes _ _ p e below s _ _ _ (T818.setTop (mkF m 154 #[.val (.int p0), .val (.int p1), .val (.int p2), .val (.int p3), .val (.ref b684), .val (.ref b708), .val (.int (3 : Int32)), .val (.ref b775), .val (.ref (o_oc ((p2.toUInt32 >>> (2 : UInt32)).toInt32 &&& (3 : Int32)) x0 x1 x2 x3)), .unset, .unset, .unset, .unset, .unset, .unset] [(.ref s1_818)]))
    refine o_astore X818 hx (hb hby at_154) rfl (Ls' := #[.val (.int p0), .val (.int p1), .val (.int p2), .val (.int p3), .val (.ref b684), .val (.ref b708), .val (.int (3 : Int32)), .val (.ref b775), .val (.ref (o_oc ((p2.toUInt32 >>> (2 : UInt32)).toInt32 &&& (3 : Int32)) x0 x1 x2 x3)), .val (.ref s1_818), .unset, .unset, .unset, .unset, .unset]) rfl (n := 156) rfl ?_
    refine o_new X818 hx hZ hown (hw _ (List.mem_of_getElem? (i := 51) rfl)) (hw _ (List.mem_of_getElem? (i := 52) rfl)) (hw _ (List.mem_of_getElem? (i := 53) rfl)) (rfl : T818.heap = T818.heap) (hb hby at_156) (by decide) (by decide) (n := 159) rfl ?_
    intro T848 h848 b848 X848 e848 g848 E848 A848 D848
    have ne849 : b684 ≠ b848 := Nat.ne_of_lt (Nat.lt_of_lt_of_eq f837.lt g848.symm)
    have ne850 : b708 ≠ b848 := Nat.ne_of_lt (Nat.lt_of_lt_of_eq f838.lt g848.symm)
    have ne851 : n1_719 ≠ b848 := Nat.ne_of_lt (Nat.lt_of_lt_of_eq f841.lt g848.symm)
    have ne852 : b733 ≠ b848 := Nat.ne_of_lt (Nat.lt_of_lt_of_eq f842.lt g848.symm)
    have ne853 : b775 ≠ b848 := Nat.ne_of_lt (Nat.lt_of_lt_of_eq f843.lt g848.symm)
    have ne854 : n1_794 ≠ b848 := Nat.ne_of_lt (Nat.lt_of_lt_of_eq f846.lt g848.symm)
    have ne855 : s1_818 ≠ b848 := Nat.ne_of_lt (Nat.lt_of_lt_of_eq o818_0.lt g848.symm)
    have ne856 : n1_818 ≠ b848 := Nat.ne_of_lt (Nat.lt_of_lt_of_eq o818_3.lt g848.symm)
    have gg848 : n0 ≤ b848 := Nat.le_trans zz818 (Nat.le_of_eq g848.symm)
    have zz848 : n0 ≤ h848.size := Nat.le_trans zz818 E848.1
    have sz848 : h0.size ≤ b848 := Nat.le_trans K847.1 (Nat.le_of_eq g848.symm)
    have f857 := f832.ext E848
    have f858 := f833.ext E848
    have f859 := f834.ext E848
    have f860 := f835.ext E848
    have f861 := f836.ext E848
    have f862 := f837.ext E848
    have f863 := f838.ext E848
    have f864 := f839.ext E848
    have f865 := f840.ext E848
    have f866 := f841.ext E848
    have f867 := f842.ext E848
    have f868 := f843.ext E848
    have f869 := f844.ext E848
    have f870 := f845.ext E848
    have f871 := f846.ext E848
    have f872 := o818_0.ext E848
    have f873 := o818_1.ext E848
    have f874 := o818_2.ext E848
    have f875 := o818_3.ext E848
    have K876 : Keep h0 h848 [] := K847.ext E848
    have f877 : Fld Z h848 b848 "com/example/estim365/estim365/cli/Option" "name" "Ljava/lang/String;" .null := D848 (Or.inr (hw _ (List.mem_of_getElem? (i := 64) rfl))) (ty := (.object "java/lang/String")) (by decide)
    have f878 : Fld Z h848 b848 "com/example/estim365/estim365/cli/Option" "value" "Ljava/lang/String;" .null := D848 (Or.inr (hw _ (List.mem_of_getElem? (i := 66) rfl))) (ty := (.object "java/lang/String")) (by decide)
    have f879 : Fld Z h848 b848 "com/example/estim365/estim365/cli/Option" "occurrence" "Lcom/example/estim365/estim365/cli/Option$Occurrence;" .null := D848 (Or.inr (hw _ (List.mem_of_getElem? (i := 68) rfl))) (ty := (.object "com/example/estim365/estim365/cli/Option$Occurrence")) (by decide)
    have f880 : Fld Z h848 b848 "com/example/estim365/estim365/cli/Option" "description" "Ljava/lang/String;" .null := D848 (Or.inr (hw _ (List.mem_of_getElem? (i := 70) rfl))) (ty := (.object "java/lang/String")) (by decide)
    refine o_dup X848 hx (hb hby at_159) rfl (n := 160) rfl ?_
    refine o_aload X848 hx (hb hby at_160) (v := (.ref b708)) rfl rfl (n := 162) rfl ?_
    refine o_aload X848 hx (hb hby at_162) (v := (.ref b775)) rfl rfl (n := 164) rfl ?_
    refine o_aload X848 hx (hb hby at_164) (v := (.ref (o_oc ((p2.toUInt32 >>> (2 : UInt32)).toInt32 &&& (3 : Int32)) x0 x1 x2 x3))) rfl rfl (n := 166) rfl ?_
    refine o_aload X848 hx (hb hby at_166) (v := (.ref s1_818)) rfl rfl (n := 168) rfl ?_
    refine o_callN X848 hx hZ rfl hown (hw _ (List.mem_of_getElem? (i := 54) rfl)) (hw _ (List.mem_of_getElem? (i := 55) rfl)) (hw _ (List.mem_of_getElem? (i := 53) rfl)) (hw _ (List.mem_of_getElem? (i := 56) rfl)) (by decide) e848 (a := b848) (argsL := [(.ref b708), (.ref b775), (.ref (o_oc ((p2.toUInt32 >>> (2 : UInt32)).toInt32 &&& (3 : Int32)) x0 x1 x2 x3)), (.ref s1_818)]) (rest := [(.ref b848)]) (c_opi0 l Z a0 hw b848 b708 b775 (o_oc ((p2.toUInt32 >>> (2 : UInt32)).toInt32 &&& (3 : Int32)) x0 x1 x2 x3) s1_818 h848 n0 zz848 gg848 A848 f877 f878 f879 f880) 1 (by decide) (by decide) (by decide) (by decide) (by rw [hml]; rfl) (lenOf o_pd8 rfl) rfl (Nat.le_of_eq rfl) (hb hby at_168) (n := 171) rfl ?_
    intro v881 T881 L881 X881 q881
    obtain ⟨rfl, Nq881, K881, o881_0, o881_1, o881_2, o881_3, o881_4⟩ := q881
    have N882 := Fr.app N819 Nq881
    have f883 := o_sta_keep f857 K881 (allS (P := fun a => ∀ cl : Cell, h848[a]? = some cl → cl.vm.isStatics = false) (o_exa_ns A848) all0)
    have f884 := o_sta_keep f858 K881 (allS (P := fun a => ∀ cl : Cell, h848[a]? = some cl → cl.vm.isStatics = false) (o_exa_ns A848) all0)
    have f885 := o_sta_keep f859 K881 (allS (P := fun a => ∀ cl : Cell, h848[a]? = some cl → cl.vm.isStatics = false) (o_exa_ns A848) all0)
    have f886 := o_sta_keep f860 K881 (allS (P := fun a => ∀ cl : Cell, h848[a]? = some cl → cl.vm.isStatics = false) (o_exa_ns A848) all0)
    have f887 := o_sta_keep f861 K881 (allS (P := fun a => ∀ cl : Cell, h848[a]? = some cl → cl.vm.isStatics = false) (o_exa_ns A848) all0)
    have f888 := f862.keep K881 (ninS ne849 nin0)
    have f889 := f863.keep K881
    have f890 := f864.keep K881 (ninS ne850 nin0)
    have f891 := f865.keep K881 (ninS ne850 nin0)
    have f892 := f866.keep K881 (ninS ne851 nin0)
    have f893 := f867.keep K881 (ninS ne852 nin0)
    have f894 := f868.keep K881
    have f895 := f869.keep K881 (ninS ne853 nin0)
    have f896 := f870.keep K881 (ninS ne853 nin0)
    have f897 := f871.keep K881 (ninS ne854 nin0)
    have f898 := f872.keep K881
    have f899 := f873.keep K881 (ninS ne855 nin0)
    have f900 := f874.keep K881 (ninS ne855 nin0)
    have f901 := f875.keep K881 (ninS ne856 nin0)
    have f902 := A848.keep K881
    have zz881 : n0 ≤ T881.heap.size := Nat.le_trans zz848 K881.1
    have K907 : Keep h0 T881.heap [] := K876.trans K881 (allS (P := fun x => x ∈ [] ∨ h0.size ≤ x) (Or.inr sz848) all0)
    show Goes _ _ p e below s _ _ _ (T881.setTop (mkF m 171 #[.val (.int p0), .val (.int p1), .val (.int p2), .val (.int p3), .val (.ref b684), .val (.ref b708), .val (.int (3 : Int32)), .val (.ref b775), .val (.ref (o_oc ((p2.toUInt32 >>> (2 : UInt32)).toInt32 &&& (3 : Int32)) x0 x1 x2 x3)), .val (.ref s1_818), .unset, .unset, .unset, .unset, .unset] [(.ref b848)]))
    refine o_astore X881 hx (hb hby at_171) rfl (Ls' := #[.val (.int p0), .val (.int p1), .val (.int p2), .val (.int p3), .val (.ref b684), .val (.ref b708), .val (.int (3 : Int32)), .val (.ref b775), .val (.ref (o_oc ((p2.toUInt32 >>> (2 : UInt32)).toInt32 &&& (3 : Int32)) x0 x1 x2 x3)), .val (.ref s1_818), .val (.ref b848), .unset, .unset, .unset, .unset]) rfl (n := 173) rfl ?_
    refine o_aload X881 hx (hb hby at_173) (v := (.ref b848)) rfl rfl (n := 175) rfl ?_
    refine o_callV X881 hx hZ hown (hw _ (List.mem_of_getElem? (i := 71) rfl)) (hw _ (List.mem_of_getElem? (i := 72) rfl)) (hw _ (List.mem_of_getElem? (i := 74) rfl)) (hw _ (List.mem_of_getElem? (i := 73) rfl)) (hw _ (List.mem_of_getElem? (i := 53) rfl)) (hw _ (List.mem_of_getElem? (i := 75) rfl)) (by decide) (rfl : T881.heap = T881.heap) o881_0 (argsL := []) (rest := []) (c_isf0 l Z a0 hw b848 b775 T881.heap o881_0 o881_2) 0 (by decide) (by decide) (by decide) (by decide) (by rw [hml]; rfl) (lenOf o_pd20 rfl) rfl (Nat.le_of_eq rfl) (hb hby at_175) (n := 178) rfl ?_
    intro v908 T908 L908 X908 q908
    obtain ⟨rfl, e908, rfl⟩ := q908
    have N909 := Fr.app N882 (Fr.nil n0)
    show Goes _ _ p e below s _ _ _ (T908.setTop (mkF m 178 #[.val (.int p0), .val (.int p1), .val (.int p2), .val (.int p3), .val (.ref b684), .val (.ref b708), .val (.int (3 : Int32)), .val (.ref b775), .val (.ref (o_oc ((p2.toUInt32 >>> (2 : UInt32)).toInt32 &&& (3 : Int32)) x0 x1 x2 x3)), .val (.ref s1_818), .val (.ref b848), .unset, .unset, .unset, .unset] [(.int (0 : Int32))]))
    refine o_istore X908 hx (hb hby at_178) (Ls' := #[.val (.int p0), .val (.int p1), .val (.int p2), .val (.int p3), .val (.ref b684), .val (.ref b708), .val (.int (3 : Int32)), .val (.ref b775), .val (.ref (o_oc ((p2.toUInt32 >>> (2 : UInt32)).toInt32 &&& (3 : Int32)) x0 x1 x2 x3)), .val (.ref s1_818), .val (.ref b848), .val (.int (0 : Int32)), .unset, .unset, .unset]) rfl (n := 180) rfl ?_
    refine o_iload X908 hx (hb hby at_180) (v := (3 : Int32)) rfl (n := 182) rfl ?_
    refine o_ifY X908 hx (hb hby at_182) (XT.i0_ne_t (by decide)) (by decide) (n := 189) (by decide) ?_
    refine o_iconst X908 hx (hb hby at_189) (v := (0 : Int32)) rfl (n := 190) rfl ?_
    refine o_istore X908 hx (hb hby at_190) (Ls' := #[.val (.int p0), .val (.int p1), .val (.int p2), .val (.int p3), .val (.ref b684), .val (.ref b708), .val (.int (3 : Int32)), .val (.ref b775), .val (.ref (o_oc ((p2.toUInt32 >>> (2 : UInt32)).toInt32 &&& (3 : Int32)) x0 x1 x2 x3)), .val (.ref s1_818), .val (.ref b848), .val (.int (0 : Int32)), .val (.int (0 : Int32)), .unset, .unset]) rfl (n := 192) rfl ?_
    refine o_aload X908 hx (hb hby at_192) (v := (.ref b848)) rfl rfl (n := 194) rfl ?_
    refine o_callVW X908 hx hZ hown (hw _ (List.mem_of_getElem? (i := 76) rfl)) (hw _ (List.mem_of_getElem? (i := 77) rfl)) (hw _ (List.mem_of_getElem? (i := 79) rfl)) (hw _ (List.mem_of_getElem? (i := 78) rfl)) (hw _ (List.mem_of_getElem? (i := 53) rfl)) (hw _ (List.mem_of_getElem? (i := 80) rfl)) (by decide) e908 o881_0 (argsL := []) (rest := []) IB0 (c_gvn_2 l Z a0 hw b848 b708 n1_719 kn_719 b775 n1_794 kn_794 cs ca.toInt8.toInt32 cb.toInt8.toInt32 cc.toInt8.toInt32 cd.toInt8.toInt32 T881.heap o881_0 o881_1 o881_2 f889 f890 f891 f892 f894 f895 f896 f897 f887 hcs (fun b cl q => K907.2.1 b cl (hZ0 ▸ q) nin0) hheld hcw) 0 (by decide) (by decide) (by decide) (by decide) (by rw [hml]; rfl) (lenOf o_pd25 rfl) rfl (Nat.le_of_eq rfl) (hb hby at_194) (n := 197) rfl ?_
    intro v910 T910 L910 X910 S910 hg910 hZ hown IB910 q910
    have X910 : Stand p l e _ (s.setVm T910.vm) m _ below meth c T910 _ _ _ := X910
    have S910 := State.Since.trans S0 S910 (Nat.le_trans (Nat.le_trans (Nat.le_trans (Nat.le_trans (Nat.le_trans (Nat.le_trans (Nat.le_trans (Nat.le_trans (Nat.le_trans (Nat.le_trans (Nat.le_trans (Nat.le_trans (Nat.le_trans (Nat.le_trans (Nat.zero_le _) E684.1) (Nat.le_of_eq W692.size.symm)) (Nat.le_of_eq W700.size.symm)) E708.1) K719.1) E733.1) (Nat.le_of_eq W749.size.symm)) (Nat.le_of_eq W762.size.symm)) E775.1) K794.1) K818.1) E848.1) K881.1) hg910)
    have hZ : Z.Warmed39 (s.setVm T910.vm).vm := hZ
    have hown : (s.setVm T910.vm).vm.findClass "com/example/estim365/estim365/cli/OptionIsFlagPinLaw" = some m.cls := hown
    obtain ⟨s1_910, n1_910, kn_910, rfl, Nq910, K910, sq910_s1, sq910_n1, o910_0, o910_1, o910_2, o910_3⟩ := q910
    have N911 := Fr.app N909 (o_frw zz881 Nq910)
    have ne912 : b684 ≠ s1_910 := Nat.ne_of_lt (Nat.lt_of_lt_of_le f888.lt sq910_s1)
    have ne913 : b708 ≠ s1_910 := Nat.ne_of_lt (Nat.lt_of_lt_of_le f889.lt sq910_s1)
    have ne914 : n1_719 ≠ s1_910 := Nat.ne_of_lt (Nat.lt_of_lt_of_le f892.lt sq910_s1)
    have ne915 : b733 ≠ s1_910 := Nat.ne_of_lt (Nat.lt_of_lt_of_le f893.lt sq910_s1)
    have ne916 : b775 ≠ s1_910 := Nat.ne_of_lt (Nat.lt_of_lt_of_le f894.lt sq910_s1)
    have ne917 : n1_794 ≠ s1_910 := Nat.ne_of_lt (Nat.lt_of_lt_of_le f897.lt sq910_s1)
    have ne918 : s1_818 ≠ s1_910 := Nat.ne_of_lt (Nat.lt_of_lt_of_le f898.lt sq910_s1)
    have ne919 : n1_818 ≠ s1_910 := Nat.ne_of_lt (Nat.lt_of_lt_of_le f901.lt sq910_s1)
    have ne920 : b848 ≠ s1_910 := Nat.ne_of_lt (Nat.lt_of_lt_of_le o881_0.lt sq910_s1)
    have ne921 : b684 ≠ n1_910 := Nat.ne_of_lt (Nat.lt_of_lt_of_le f888.lt sq910_n1)
    have ne922 : b708 ≠ n1_910 := Nat.ne_of_lt (Nat.lt_of_lt_of_le f889.lt sq910_n1)
    have ne923 : n1_719 ≠ n1_910 := Nat.ne_of_lt (Nat.lt_of_lt_of_le f892.lt sq910_n1)
    have ne924 : b733 ≠ n1_910 := Nat.ne_of_lt (Nat.lt_of_lt_of_le f893.lt sq910_n1)
    have ne925 : b775 ≠ n1_910 := Nat.ne_of_lt (Nat.lt_of_lt_of_le f894.lt sq910_n1)
    have ne926 : n1_794 ≠ n1_910 := Nat.ne_of_lt (Nat.lt_of_lt_of_le f897.lt sq910_n1)
    have ne927 : s1_818 ≠ n1_910 := Nat.ne_of_lt (Nat.lt_of_lt_of_le f898.lt sq910_n1)
    have ne928 : n1_818 ≠ n1_910 := Nat.ne_of_lt (Nat.lt_of_lt_of_le f901.lt sq910_n1)
    have ne929 : b848 ≠ n1_910 := Nat.ne_of_lt (Nat.lt_of_lt_of_le o881_0.lt sq910_n1)
    have f930 := o_sta_keep f883 K910 all0
    have f931 := o_sta_keep f884 K910 all0
    have f932 := o_sta_keep f885 K910 all0
    have f933 := o_sta_keep f886 K910 all0
    have f934 := o_sta_keep f887 K910 all0
    have f935 := f888.keep K910 nin0
    have f936 := f889.keep K910
    have f937 := f890.keep K910 nin0
    have f938 := f891.keep K910 nin0
    have f939 := f892.keep K910 nin0
    have f940 := f893.keep K910 nin0
    have f941 := f894.keep K910
    have f942 := f895.keep K910 nin0
    have f943 := f896.keep K910 nin0
    have f944 := f897.keep K910 nin0
    have f945 := f898.keep K910
    have f946 := f899.keep K910 nin0
    have f947 := f900.keep K910 nin0
    have f948 := f901.keep K910 nin0
    have f949 := o881_0.keep K910
    have f950 := o881_1.keep K910 nin0
    have f951 := o881_2.keep K910 nin0
    have f952 := o881_3.keep K910 nin0
    have f953 := o881_4.keep K910 nin0
    have zz910 : n0 ≤ T910.heap.size := Nat.le_trans zz881 K910.1
    have K954 : Keep h0 T910.heap [] := K907.trans K910 all0
    show Goes _ _ p e below s _ _ _ (T910.setTop (mkF m 197 #[.val (.int p0), .val (.int p1), .val (.int p2), .val (.int p3), .val (.ref b684), .val (.ref b708), .val (.int (3 : Int32)), .val (.ref b775), .val (.ref (o_oc ((p2.toUInt32 >>> (2 : UInt32)).toInt32 &&& (3 : Int32)) x0 x1 x2 x3)), .val (.ref s1_818), .val (.ref b848), .val (.int (0 : Int32)), .val (.int (0 : Int32)), .unset, .unset] [(.ref s1_910)]))
    refine o_aload X910 hx (hb hby at_197) (v := (.ref b708)) rfl rfl (n := 199) rfl ?_
    refine o_callV X910 hx hZ hown (hw _ (List.mem_of_getElem? (i := 195) rfl)) (hw _ (List.mem_of_getElem? (i := 196) rfl)) (hw _ (List.mem_of_getElem? (i := 198) rfl)) (hw _ (List.mem_of_getElem? (i := 197) rfl)) (hw _ (List.mem_of_getElem? (i := 3) rfl)) (hw _ (List.mem_of_getElem? (i := 199) rfl)) (by decide) (rfl : T910.heap = T910.heap) o910_0 (argsL := [(.ref b708)]) (rest := []) (c_eq5 l Z a0 hw s1_910 n1_910 kn_910 ([(.int ca.toInt8.toInt32), (.int cb.toInt8.toInt32), (.int (32 : Int32)), (.int cc.toInt8.toInt32), (.int cd.toInt8.toInt32)]) b708 n1_719 kn_719 ([(.int ca.toInt8.toInt32), (.int cb.toInt8.toInt32)]) cs T910.heap o910_0 o910_1 o910_2 o910_3 f936 f937 f938 f939 (Ne.symm ne913) f934 hcs) 0 (by decide) (by decide) (by decide) (by decide) (by rw [hml]; rfl) (lenOf o_pd29 rfl) rfl (Nat.le_of_eq rfl) (hb hby at_199) (n := 202) rfl ?_
    intro v955 T955 L955 X955 q955
    obtain ⟨rfl, e955, rfl⟩ := q955
    have N956 := Fr.app N911 (Fr.nil n0)
    show Goes _ _ p e below s _ _ _ (T955.setTop (mkF m 202 #[.val (.int p0), .val (.int p1), .val (.int p2), .val (.int p3), .val (.ref b684), .val (.ref b708), .val (.int (3 : Int32)), .val (.ref b775), .val (.ref (o_oc ((p2.toUInt32 >>> (2 : UInt32)).toInt32 &&& (3 : Int32)) x0 x1 x2 x3)), .val (.ref s1_818), .val (.ref b848), .val (.int (0 : Int32)), .val (.int (0 : Int32)), .unset, .unset] [(.int (0 : Int32))]))
    refine o_istore X955 hx (hb hby at_202) (Ls' := #[.val (.int p0), .val (.int p1), .val (.int p2), .val (.int p3), .val (.ref b684), .val (.ref b708), .val (.int (3 : Int32)), .val (.ref b775), .val (.ref (o_oc ((p2.toUInt32 >>> (2 : UInt32)).toInt32 &&& (3 : Int32)) x0 x1 x2 x3)), .val (.ref s1_818), .val (.ref b848), .val (.int (0 : Int32)), .val (.int (0 : Int32)), .val (.int (0 : Int32)), .unset]) rfl (n := 204) rfl ?_
    refine o_aload X955 hx (hb hby at_204) (v := (.ref b708)) rfl rfl (n := 206) rfl ?_
    refine o_aload X955 hx (hb hby at_206) (v := (.ref s1_818)) rfl rfl (n := 208) rfl ?_
    refine o_callS X955 hx hZ hown (hw _ (List.mem_of_getElem? (i := 203) rfl)) (hw _ (List.mem_of_getElem? (i := 204) rfl)) (hw _ (List.mem_of_getElem? (i := 53) rfl)) (hw _ (List.mem_of_getElem? (i := 205) rfl)) (by decide) e955 (argsL := [(.ref b708), (.ref s1_818)]) (rest := []) (c_flag l Z a0 hw b708 s1_818 x1 T910.heap n0 zz910 f931) 0 (by decide) (by decide) (by decide) (by decide) (by rw [hml]; rfl) (lenOf o_pd30 rfl) rfl (Nat.le_of_eq rfl) (hb hby at_208) (n := 211) rfl ?_
    intro v957 T957 L957 X957 q957
    obtain ⟨n1_957, rfl, Nq957, K957, sq957_n1, o957_0, o957_1⟩ := q957
    have N958 := Fr.app N956 Nq957
    have ne959 : b684 ≠ n1_957 := Nat.ne_of_lt (Nat.lt_of_lt_of_le f935.lt sq957_n1)
    have ne960 : b708 ≠ n1_957 := Nat.ne_of_lt (Nat.lt_of_lt_of_le f936.lt sq957_n1)
    have ne961 : n1_719 ≠ n1_957 := Nat.ne_of_lt (Nat.lt_of_lt_of_le f939.lt sq957_n1)
    have ne962 : b733 ≠ n1_957 := Nat.ne_of_lt (Nat.lt_of_lt_of_le f940.lt sq957_n1)
    have ne963 : b775 ≠ n1_957 := Nat.ne_of_lt (Nat.lt_of_lt_of_le f941.lt sq957_n1)
    have ne964 : n1_794 ≠ n1_957 := Nat.ne_of_lt (Nat.lt_of_lt_of_le f944.lt sq957_n1)
    have ne965 : s1_818 ≠ n1_957 := Nat.ne_of_lt (Nat.lt_of_lt_of_le f945.lt sq957_n1)
    have ne966 : n1_818 ≠ n1_957 := Nat.ne_of_lt (Nat.lt_of_lt_of_le f948.lt sq957_n1)
    have ne967 : b848 ≠ n1_957 := Nat.ne_of_lt (Nat.lt_of_lt_of_le f949.lt sq957_n1)
    have ne968 : s1_910 ≠ n1_957 := Nat.ne_of_lt (Nat.lt_of_lt_of_le o910_0.lt sq957_n1)
    have ne969 : n1_910 ≠ n1_957 := Nat.ne_of_lt (Nat.lt_of_lt_of_le o910_3.lt sq957_n1)
    have gg957_n1 : n0 ≤ n1_957 := Nat.le_trans zz910 sq957_n1
    have sz957_n1 : h0.size ≤ n1_957 := Nat.le_trans K954.1 sq957_n1
    have f970 := o_sta_keep f930 K957 all0
    have f971 := o_sta_keep f931 K957 all0
    have f972 := o_sta_keep f932 K957 all0
    have f973 := o_sta_keep f933 K957 all0
    have f974 := o_sta_keep f934 K957 all0
    have f975 := f935.keep K957 nin0
    have f976 := f936.keep K957
    have f977 := f937.keep K957 nin0
    have f978 := f938.keep K957 nin0
    have f979 := f939.keep K957 nin0
    have f980 := f940.keep K957 nin0
    have f981 := f941.keep K957
    have f982 := f942.keep K957 nin0
    have f983 := f943.keep K957 nin0
    have f984 := f944.keep K957 nin0
    have f985 := f945.keep K957
    have f986 := f946.keep K957 nin0
    have f987 := f947.keep K957 nin0
    have f988 := f948.keep K957 nin0
    have f989 := f949.keep K957
    have f990 := f950.keep K957 nin0
    have f991 := f951.keep K957 nin0
    have f992 := f952.keep K957 nin0
    have f993 := f953.keep K957 nin0
    have f994 := o910_0.keep K957
    have f995 := o910_1.keep K957 nin0
    have f996 := o910_2.keep K957 nin0
    have f997 := o910_3.keep K957 nin0
    have zz957 : n0 ≤ T957.heap.size := Nat.le_trans zz910 K957.1
    have K998 : Keep h0 T957.heap [] := K954.trans K957 all0
    show Goes _ _ p e below s _ _ _ (T957.setTop (mkF m 211 #[.val (.int p0), .val (.int p1), .val (.int p2), .val (.int p3), .val (.ref b684), .val (.ref b708), .val (.int (3 : Int32)), .val (.ref b775), .val (.ref (o_oc ((p2.toUInt32 >>> (2 : UInt32)).toInt32 &&& (3 : Int32)) x0 x1 x2 x3)), .val (.ref s1_818), .val (.ref b848), .val (.int (0 : Int32)), .val (.int (0 : Int32)), .val (.int (0 : Int32)), .unset] [(.ref n1_957)]))
    refine o_callV X957 hx hZ hown (hw _ (List.mem_of_getElem? (i := 71) rfl)) (hw _ (List.mem_of_getElem? (i := 72) rfl)) (hw _ (List.mem_of_getElem? (i := 74) rfl)) (hw _ (List.mem_of_getElem? (i := 73) rfl)) (hw _ (List.mem_of_getElem? (i := 53) rfl)) (hw _ (List.mem_of_getElem? (i := 75) rfl)) (by decide) (rfl : T957.heap = T957.heap) o957_0 (argsL := []) (rest := []) (c_isf1 l Z a0 hw n1_957 T957.heap o957_0 o957_1) 0 (by decide) (by decide) (by decide) (by decide) (by rw [hml]; rfl) (lenOf o_pd20 rfl) rfl (Nat.le_of_eq rfl) (hb hby at_211) (n := 214) rfl ?_
    intro v999 T999 L999 X999 q999
    obtain ⟨rfl, e999, rfl⟩ := q999
    have N1000 := Fr.app N958 (Fr.nil n0)
    show Goes _ _ p e below s _ _ _ (T999.setTop (mkF m 214 #[.val (.int p0), .val (.int p1), .val (.int p2), .val (.int p3), .val (.ref b684), .val (.ref b708), .val (.int (3 : Int32)), .val (.ref b775), .val (.ref (o_oc ((p2.toUInt32 >>> (2 : UInt32)).toInt32 &&& (3 : Int32)) x0 x1 x2 x3)), .val (.ref s1_818), .val (.ref b848), .val (.int (0 : Int32)), .val (.int (0 : Int32)), .val (.int (0 : Int32)), .unset] [(.int (1 : Int32))]))
    refine o_istore X999 hx (hb hby at_214) (Ls' := #[.val (.int p0), .val (.int p1), .val (.int p2), .val (.int p3), .val (.ref b684), .val (.ref b708), .val (.int (3 : Int32)), .val (.ref b775), .val (.ref (o_oc ((p2.toUInt32 >>> (2 : UInt32)).toInt32 &&& (3 : Int32)) x0 x1 x2 x3)), .val (.ref s1_818), .val (.ref b848), .val (.int (0 : Int32)), .val (.int (0 : Int32)), .val (.int (0 : Int32)), .val (.int (1 : Int32))]) rfl (n := 216) rfl ?_
    refine o_iload X999 hx (hb hby at_216) (v := (0 : Int32)) rfl (n := 218) rfl ?_
    refine o_iload X999 hx (hb hby at_218) (v := (0 : Int32)) rfl (n := 220) rfl ?_
    refine o_icmpN X999 hx (hb hby at_220) (XT.ii_ne_f (by decide)) (n := 223) rfl ?_
    refine o_iload X999 hx (hb hby at_223) (v := (0 : Int32)) rfl (n := 225) rfl ?_
    refine o_iload X999 hx (hb hby at_225) (v := (0 : Int32)) rfl (n := 227) rfl ?_
    refine o_icmpN X999 hx (hb hby at_227) (XT.ii_ne_f (by decide)) (n := 230) rfl ?_
    refine o_iload X999 hx (hb hby at_230) (v := (1 : Int32)) rfl (n := 232) rfl ?_
    refine o_ifN X999 hx (hb hby at_232) (XT.i0_eq_f (by decide)) (n := 235) rfl ?_
    refine o_iconst X999 hx (hb hby at_235) (v := (1 : Int32)) rfl (n := 236) rfl ?_
    refine o_goto X999 hx (hb hby at_236) (by decide) (n := 240) (by decide) ?_
    exact o_nreturnW X999 hx S910 (Nat.le_trans (Nat.le_refl _) K957.1) hret hlk (t := .boolean) (by simp) (hb hby at_240) (by decide) (by decide) e999 (fun _ _ => trivial) ⟨rfl, N1000⟩
set_option maxRecDepth 65536 in
set_option maxHeartbeats 40000000 in
theorem comes_1 {Post : Tables → Env → Array Value → State → Outcome → State → Prop} (hpost : ∀ tb e args s v u, (limb_1_1.after args s (.returned v) u = true ∧ limb_1_2.after args s (.returned v) u = true ∧ True) → ReturnedEndW s (.returned v) u (Jvm.fieldLocs frame_1_writes args s ++ Jvm.arrayLocs frame_1_arrays args s ++ Jvm.staticLocs frame_1_statics s) 40 2240 → Post tb e args s (.returned v) u) :
    ArmFor flags0 classFile x code maxLocals ret World_1 tables_1 room_1 Calls_1 rest_1 Pre_1 Post := by
  intro l hfl _ _ p e ha hc hk s m args below hf hA hF happ hP
  obtain ⟨hcalls, hrest, hpre⟩ := hP
  obtain ⟨-, -, -, hnamed, -, -, -, hat⟩ := (Spec.applies_iff hf).mp happ
  obtain ⟨hg, hn⟩ := and_e (Cond.before_iff.mp (show (Jvm.Cond.and given_1 narrow_1).before args s = true from hpre))
  obtain ⟨gv1, gv2⟩ := and_e hg
  obtain ⟨gv3, gv4⟩ := and_e gv2
  obtain ⟨gv5, gv6⟩ := and_e gv4
  obtain ⟨gv7, gv8⟩ := and_e gv6
  obtain ⟨w0, w1, w2, w3, rfl⟩ : ∃ w0 w1 w2 w3 : Value, args = #[w0, w1, w2, w3] := by
    have hs : args.size = 4 := by simpa [Cond.value, given_1] using gv1
    obtain ⟨L⟩ := args
    match L, hs with
    | [w0, w1, w2, w3], _ => exact ⟨w0, w1, w2, w3, rfl⟩
  have hw := fun d (hd : d ∈ tables_1) => atoms_spec (ws := Jvm.Cond.code x code maxLocals ret :: tables_1) hat d (List.mem_cons_of_mem _ hd)
  have hfit : Fit s := fun {y c} hc i hi => by
    obtain ⟨ha, rfl⟩ := Array.getElem?_eq_some_iff.mp hc
    have q := List.all_eq_true.mp ((Array.all_eq_true_iff_forall_mem.mp hF) _ (Array.getElem_mem ha)) i (List.mem_range.mpr hi)
    simpa [Array.getElem?_eq_getElem hi] using q
  obtain ⟨hsets, hown0⟩ := atoms_of _ (rest_1_c_eq ▸ (show rest_1_c.before _ s = true from hrest))
  have hr0 := Cond.before_iff.mp hown0
  obtain ⟨i0, ei0⟩ := is_v gv3
  obtain rfl : w0 = (.int i0) := Option.some.inj ei0
  obtain ⟨i1, ei1⟩ := is_v gv5
  obtain rfl : w1 = (.int i1) := Option.some.inj ei1
  obtain ⟨i2, ei2⟩ := is_v gv7
  obtain rfl : w2 = (.int i2) := Option.some.inj ei2
  obtain ⟨i3, ei3⟩ := is_v gv8
  obtain rfl : w3 = (.int i3) := Option.some.inj ei3
  obtain ⟨na0, nb0⟩ := and_e hn
  obtain ⟨na1, nb1⟩ := and_e nb0
  obtain ⟨na2, na3⟩ := and_e nb1
  obtain ⟨x0, hs0⟩ := exa_v na0
  have hS0 := Sta.start hs0 (Or.inr ⟨(hw _ (List.mem_of_getElem? (i := 49) rfl)), (hw _ (List.mem_of_getElem? (i := 50) rfl))⟩)
  obtain ⟨x1, hs1⟩ := exa_v na1
  have hS1 := Sta.start hs1 (Or.inr ⟨(hw _ (List.mem_of_getElem? (i := 49) rfl)), (hw _ (List.mem_of_getElem? (i := 208) rfl))⟩)
  obtain ⟨x2, hs2⟩ := exa_v na2
  have hS2 := Sta.start hs2 (Or.inr ⟨(hw _ (List.mem_of_getElem? (i := 49) rfl)), (hw _ (List.mem_of_getElem? (i := 212) rfl))⟩)
  obtain ⟨x3, hs3⟩ := exa_v na3
  have hS3 := Sta.start hs3 (Or.inr ⟨(hw _ (List.mem_of_getElem? (i := 49) rfl)), (hw _ (List.mem_of_getElem? (i := 214) rfl))⟩)
  obtain ⟨cs, hcs0⟩ := is_v (Cond.before_iff.mp (hsets _ (List.mem_of_getElem? (i := 1) rfl)))
  have hSc := Sta.start hcs0 (Or.inl (hsets _ (List.mem_of_getElem? (i := 0) rfl)))
  have hcw := (hsets _ (List.mem_of_getElem? (i := 2) rfl))
  have hcs : ¬ cs = (0 : Int32) := fun z => by
    have u := not_v (Cond.before_iff.mp hcw)
    have v := eq_i hcs0 (Term.int_eval (0)) (congrArg Value.int z)
    cases v.symm.trans u
  obtain ⟨n, o, h1, h2, h3, _, L, rfl, ⟨rfl, N⟩, -, hq⟩ := o_law l s _ hw i0 i1 i2 i3 s.heap s.heap.size (Nat.le_refl _) cs x0 x1 x2 x3 hS0 hS1 hS2 hS3 hSc hcs rfl (fun q hq => hcalls.1 q hq) hcw p e ha hc hk s m _ below hf ((Spec.applies_iff_loose hf).mp happ).1 ⟨rfl, State.Warmed39.refl s, rfl, IB.start⟩ trivial
  refine ⟨n, _, h1, h2, h3, hpost _ _ _ _ _ _ ⟨Cond.after_iff.mpr rfl, Cond.after_iff.mpr (eq_i res_at (Term.int_eval (1)) rfl), trivial⟩ ⟨hq.1, hq.2.1, hq.2.2.1, (hq.2.2.2.sift fun y hy => Or.inr (N y hy)).mono (by decide) (by decide)⟩⟩
theorem main_1_1 : Claimed_1_1 := comes_1 fun _ _ _ _ _ _ h hF => ⟨h.1, hF⟩
theorem main_1_2 : Claimed_1_2 := comes_1 fun _ _ _ _ _ _ h hF => ⟨h.2.1, hF⟩
end Jvm.Pilot.@@N@@
namespace Jvm.Pilot.@@N@@
open Jvm Jvm.ClassFile Sem Op Lib Jvm.Free Jvm.Stand Jvm.Pilot.@@N@@.Jvm.D
/-! MADE BY PROGRAM (witnessworld.py) out of the Statement's table words and the real class files: 29 classes; the members and pool entries that the words name. The judged class is class 1, her method 2. -/
namespace start1
open Jvm.ClassFile
def u (s : String) : CpInfo := .utf8 (stringToUtf16 s)
/-- a pool by its gaps: so many unusable entries, then the entry; so many at the end -/
def gap : Nat → List CpInfo → List CpInfo
  | 0, r => r
  | n + 1, r => .unusable :: gap n r
def poolList (es : List (Nat × CpInfo)) (last : Nat) : List CpInfo := es.foldr (fun e r => gap e.1 (e.2 :: r)) (gap last [])
def pool (es : List (Nat × CpInfo)) (last : Nat) : Array CpInfo := ⟨poolList es last⟩
def fileOf (pool : Array CpInfo) (this : Nat) (attrs : Array Attribute := #[]) (ms : Array MethodInfo := #[]) (fl : Nat := 33) (sup : Nat := 0) (ifs : Array Nat := #[]) (fds : Array FieldInfo := #[]) : ClassFile where
  minorVersion := 0
  majorVersion := 65
  constantPool := pool
  accessFlags := fl
  thisClass := this
  superClass := sup
  interfaces := ifs
  fields := fds
  methods := ms
  attributes := attrs
def plain (name : String) (sup : Option ClassId) : Class where
  name := name
  kind := .ordinary
  loader := none
  accessFlags := 33
  super := sup
  interfaces := #[]
  cf := none
  fields := #[]
  methods := #[]
  instanceTypes := #[]
  staticTypes := #[]
  resolved := #[]
  callSites := []
  init := .initialized
  statics := none
  mirror := none

def pool0 : Array CpInfo := pool [(5, u "<init>"), (0, u "()V"), (1, .class_ 10), (1, u "java/lang/Object")] 113

def k0c0 : Code := { maxStack := 0, maxLocals := 1, code := object_method_1_code, exceptionTable := #[], attributes := #[] }
def k0m0 : Method := { name := "<init>", desc := "()V", sig := { parameters := [], returnType := none }, accessFlags := 1, code := some k0c0 }
/-- java/lang/Object -/
def k0 : Class := { plain "java/lang/Object" none with
  accessFlags := 33
  interfaces := #[]
  cf := some (fileOf pool0 8 #[] #[{ accessFlags := 1, nameIndex := 5, descriptorIndex := 6, attributes := #[] }] 33 0 #[] #[])
  fields := #[]
  methods := #[k0m0]
  instanceTypes := #[]
  staticTypes := #[]
  resolved := Array.replicate 124 none
  statics := none }

def pool1 : Array CpInfo := pool [(2, .class_ 4), (1, u "java/lang/Object"), (0, u "<init>"), (0, u "()V"), (0, .fieldref 8 9), (0, .class_ 10), (0, .nameAndType 11 12), (0, u "com/example/estim365/estim365/cli/Option$Occurrence"), (0, u "REQUIRED"), (0, u "Lcom/example/estim365/estim365/cli/Option$Occurrence;"), (0, .fieldref 8 14), (0, .nameAndType 15 12), (0, u "OPTIONAL"), (0, .fieldref 8 17), (0, .nameAndType 18 12), (0, u "REPEATED"), (0, .fieldref 8 20), (0, .nameAndType 21 12), (0, u "OPTIONAL_REPEATED"), (0, .class_ 23), (0, u "java/lang/String"), (0, .methodref 22 25), (0, .nameAndType 5 26), (0, u "([C)V"), (0, .methodref 22 28), (0, .nameAndType 29 30), (0, u "valueOf"), (0, u "(C)Ljava/lang/String;"), (0, .methodref 32 33), (0, .class_ 34), (0, .nameAndType 35 36), (0, u "com/example/estim365/estim365/cli/OptionIsFlagPinLaw"), (0, u "occurrence"), (0, u "(I)Lcom/example/estim365/estim365/cli/Option$Occurrence;"), (0, .class_ 38), (0, u "com/example/estim365/estim365/cli/Option"), (0, .methodref 37 40), (0, .nameAndType 5 41), (0, u "(Ljava/lang/String;Ljava/lang/String;Lcom/example/estim365/estim365/cli/Option$Occurrence;Ljava/lang/String;)V"), (0, .methodref 37 43), (0, .nameAndType 44 45), (0, u "isFlag"), (0, u "()Z"), (0, .methodref 37 47), (0, .nameAndType 48 49), (0, u "given"), (0, u "()Ljava/lang/String;"), (0, .methodref 22 51), (0, .nameAndType 52 53), (0, u "equals"), (0, u "(Ljava/lang/Object;)Z"), (0, .methodref 37 55), (0, .nameAndType 56 57), (0, u "flag"), (0, u "(Ljava/lang/String;Ljava/lang/String;)Lcom/example/estim365/estim365/cli/Option;"), (3, u "law"), (0, u "(IIII)Z")] 6

def k1m0 : Method := { name := "<init>", desc := "()V", sig := { parameters := [], returnType := none }, accessFlags := 1, code := none }
def k1c1 : Code := { maxStack := 2, maxLocals := 1, code := method_2_code, exceptionTable := #[], attributes := #[] }
def k1m1 : Method := { name := "occurrence", desc := "(I)Lcom/example/estim365/estim365/cli/Option$Occurrence;", sig := { parameters := [.int], returnType := some (.object "com/example/estim365/estim365/cli/Option$Occurrence") }, accessFlags := 10, code := some k1c1 }
def k1c2 : Code := { maxStack := 6, maxLocals := 15, code := code, exceptionTable := #[], attributes := #[] }
def k1m2 : Method := { name := "law", desc := "(IIII)Z", sig := { parameters := [.int, .int, .int, .int], returnType := some .boolean }, accessFlags := 9, code := some k1c2 }
/-- com/example/estim365/estim365/cli/OptionIsFlagPinLaw -/
def k1 : Class := { plain "com/example/estim365/estim365/cli/OptionIsFlagPinLaw" (some 0) with
  accessFlags := 49
  interfaces := #[]
  cf := some (fileOf pool1 32 #[] #[{ accessFlags := 1, nameIndex := 5, descriptorIndex := 6, attributes := #[] }, { accessFlags := 10, nameIndex := 35, descriptorIndex := 36, attributes := #[] }, { accessFlags := 9, nameIndex := 61, descriptorIndex := 62, attributes := #[] }] 49 2 #[] #[])
  fields := #[]
  methods := #[k1m0, k1m1, k1m2]
  instanceTypes := #[]
  staticTypes := #[]
  resolved := Array.replicate 69 none
  statics := none }

def pool2 : Array CpInfo := pool [(1, .class_ 2), (0, u "java/io/Serializable"), (0, .class_ 4), (0, u "java/lang/Object")] 2

/-- java/io/Serializable -/
def k2 : Class := { plain "java/io/Serializable" (some 0) with
  accessFlags := 1537
  interfaces := #[]
  cf := some (fileOf pool2 1 #[] #[] 1537 3 #[] #[])
  fields := #[]
  methods := #[]
  instanceTypes := #[]
  staticTypes := #[]
  resolved := Array.replicate 7 none
  statics := none }

def pool3 : Array CpInfo := pool [(1, .class_ 2), (0, u "java/lang/Comparable"), (0, .class_ 4), (0, u "java/lang/Object")] 7

/-- java/lang/Comparable -/
def k3 : Class := { plain "java/lang/Comparable" (some 0) with
  accessFlags := 1537
  interfaces := #[]
  cf := some (fileOf pool3 1 #[] #[] 1537 3 #[] #[])
  fields := #[]
  methods := #[]
  instanceTypes := #[]
  staticTypes := #[]
  resolved := Array.replicate 12 none
  statics := none }

def pool4 : Array CpInfo := pool [(2, .class_ 4), (1, u "java/lang/CharSequence"), (42, .class_ 48), (0, u "java/lang/CharSequence$1CodePointIterator"), (10, .class_ 60), (0, u "java/lang/CharSequence$1CharIterator"), (5, .class_ 67), (0, u "java/lang/Object")] 63

/-- java/lang/CharSequence -/
def k4 : Class := { plain "java/lang/CharSequence" (some 0) with
  accessFlags := 1537
  interfaces := #[]
  cf := some (fileOf pool4 2 #[.nestMembers #[47, 59]] #[] 1537 66 #[] #[])
  fields := #[]
  methods := #[]
  instanceTypes := #[]
  staticTypes := #[]
  resolved := Array.replicate 131 none
  statics := none }

def pool5 : Array CpInfo := pool [(1, .class_ 2), (0, u "java/lang/constant/Constable"), (0, .class_ 4), (0, u "java/lang/Object")] 6

/-- java/lang/constant/Constable -/
def k5 : Class := { plain "java/lang/constant/Constable" (some 0) with
  accessFlags := 1537
  interfaces := #[]
  cf := some (fileOf pool5 1 #[] #[] 1537 3 #[] #[])
  fields := #[]
  methods := #[]
  instanceTypes := #[]
  staticTypes := #[]
  resolved := Array.replicate 11 none
  statics := none }

def pool6 : Array CpInfo := pool [(1, .class_ 2), (0, u "java/lang/constant/ConstantDesc"), (0, .class_ 4), (0, u "java/lang/Object")] 32

/-- java/lang/constant/ConstantDesc -/
def k6 : Class := { plain "java/lang/constant/ConstantDesc" (some 0) with
  accessFlags := 1537
  interfaces := #[]
  cf := some (fileOf pool6 1 #[] #[] 1537 3 #[] #[])
  fields := #[]
  methods := #[]
  instanceTypes := #[]
  staticTypes := #[]
  resolved := Array.replicate 37 none
  statics := none }

def pool7 : Array CpInfo := pool [(1, .methodref 2 3), (0, .class_ 4), (0, .nameAndType 5 6), (0, u "java/lang/Object"), (0, u "<init>"), (0, u "()V"), (0, .string 8), (0, u ""), (0, .fieldref 10 11), (0, .class_ 12), (0, .nameAndType 13 14), (0, u "java/lang/String"), (0, u "value"), (0, u "[B"), (0, .fieldref 10 16), (0, .nameAndType 17 18), (0, u "coder"), (0, u "B"), (2, u "hash"), (0, u "I"), (2, u "hashIsZero"), (0, u "Z"), (0, .methodref 10 28), (0, .nameAndType 5 29), (0, u "([CIILjava/lang/Void;)V"), (8, .fieldref 10 39), (0, .nameAndType 40 26), (0, u "COMPACT_STRINGS"), (1, .class_ 44), (1, u "java/lang/StringUTF16"), (0, u "compress"), (1, .methodref 42 48), (0, .nameAndType 49 50), (0, u "coderFromArrayLen"), (0, u "([BI)B"), (2, u "toBytes"), (0, .methodref 55 56), (0, .class_ 57), (0, .nameAndType 58 59), (0, u "java/util/Arrays"), (0, u "copyOfRange"), (0, u "([BII)[B"), (47, .class_ 109), (1, u "java/lang/StringLatin1"), (32, u "()Z"), (34, .methodref 42 178), (0, .nameAndType 45 179), (0, u "([CII)[B"), (13, .class_ 195), (1, u "java/lang/System"), (13, .methodref 10 210), (0, .nameAndType 5 211), (0, u "([BB)V"), (0, .methodref 193 213), (0, .nameAndType 214 215), (0, u "arraycopy"), (0, u "(Ljava/lang/Object;ILjava/lang/Object;II)V"), (118, u "()I"), (0, .methodref 10 336), (0, .nameAndType 17 337), (0, u "()B"), (2, u "()[B"), (28, u "(C)Z"), (119, .methodref 10 490), (0, .nameAndType 5 491), (0, u "(Ljava/lang/AbstractStringBuilder;Ljava/lang/Void;)V"), (1, .nameAndType 494 142), (0, u "isLatin1"), (11, .nameAndType 507 334), (0, u "length"), (24, u "getBytes"), (8, .methodref 107 542), (0, .nameAndType 543 544), (0, u "equals"), (0, u "([B[B)Z"), (4, .methodref 550 506), (0, .class_ 551), (0, u "java/lang/AbstractStringBuilder"), (0, .methodref 550 553), (0, .nameAndType 554 340), (0, u "getValue"), (18, u "(Ljava/lang/Object;)Z"), (1, .class_ 576), (0, u "java/lang/CharSequence"), (22, u "CASE_INSENSITIVE_ORDER"), (0, u "Ljava/util/Comparator;"), (181, u "valueOf"), (0, u "(C)Ljava/lang/String;"), (37, u "([BIB)V"), (188, u "([C)V"), (4, .methodref 107 1016), (0, .nameAndType 1017 369), (0, u "canEncode"), (0, .methodref 107 1019), (0, .nameAndType 53 1020), (0, u "(C)[B"), (26, .methodref 550 493), (53, u "serialPersistentFields"), (0, u "[Ljava/io/ObjectStreamField;"), (0, .class_ 1104), (0, u "java/lang/String$CaseInsensitiveComparator"), (1, .class_ 1107), (0, u "java/io/Serializable"), (0, .class_ 1109), (0, u "java/lang/Comparable"), (0, .class_ 1111), (0, u "java/lang/constant/Constable"), (0, .class_ 1113), (0, u "java/lang/constant/ConstantDesc"), (2, u "serialVersionUID"), (0, u "J"), (3, u "REPL"), (0, u "C"), (2, u "LATIN1"), (1, u "UTF16"), (105, u "(Ljava/lang/StringBuilder;)V")] 217

def k7m0 : Method := { name := "<init>", desc := "()V", sig := { parameters := [], returnType := none }, accessFlags := 1, code := none }
def k7c1 : Code := { maxStack := 5, maxLocals := 2, code := jdk_42_method_3_code, exceptionTable := #[], attributes := #[] }
def k7m1 : Method := { name := "<init>", desc := "([C)V", sig := { parameters := [(.array .char)], returnType := none }, accessFlags := 1, code := some k7c1 }
def k7c2 : Code := { maxStack := 3, maxLocals := 2, code := jdk_42_method_53_code, exceptionTable := #[], attributes := #[] }
def k7m2 : Method := { name := "<init>", desc := "(Ljava/lang/StringBuilder;)V", sig := { parameters := [(.object "java/lang/StringBuilder")], returnType := none }, accessFlags := 1, code := some k7c2 }
def k7c3 : Code := { maxStack := 2, maxLocals := 1, code := jdk_42_method_54_code, exceptionTable := #[], attributes := #[] }
def k7m3 : Method := { name := "length", desc := "()I", sig := { parameters := [], returnType := some .int }, accessFlags := 1, code := some k7c3 }
def k7c4 : Code := { maxStack := 2, maxLocals := 3, code := jdk_42_method_66_code, exceptionTable := #[], attributes := #[] }
def k7m4 : Method := { name := "equals", desc := "(Ljava/lang/Object;)Z", sig := { parameters := [(.object "java/lang/Object")], returnType := some .boolean }, accessFlags := 1, code := some k7c4 }
def k7c5 : Code := { maxStack := 4, maxLocals := 1, code := jdk_42_method_139_code, exceptionTable := #[], attributes := #[] }
def k7m5 : Method := { name := "valueOf", desc := "(C)Ljava/lang/String;", sig := { parameters := [.char], returnType := some (.object "java/lang/String") }, accessFlags := 9, code := some k7c5 }
def k7c6 : Code := { maxStack := 5, maxLocals := 4, code := jdk_42_method_147_code, exceptionTable := #[], attributes := #[] }
def k7m6 : Method := { name := "getBytes", desc := "([BIB)V", sig := { parameters := [(.array .byte), .int, .byte], returnType := none }, accessFlags := 0, code := some k7c6 }
def k7c7 : Code := { maxStack := 4, maxLocals := 6, code := jdk_42_method_149_code, exceptionTable := #[], attributes := #[] }
def k7m7 : Method := { name := "<init>", desc := "([CIILjava/lang/Void;)V", sig := { parameters := [(.array .char), .int, .int, (.object "java/lang/Void")], returnType := none }, accessFlags := 2, code := some k7c7 }
def k7c8 : Code := { maxStack := 5, maxLocals := 5, code := jdk_42_method_150_code, exceptionTable := #[], attributes := #[] }
def k7m8 : Method := { name := "<init>", desc := "(Ljava/lang/AbstractStringBuilder;Ljava/lang/Void;)V", sig := { parameters := [(.object "java/lang/AbstractStringBuilder"), (.object "java/lang/Void")], returnType := none }, accessFlags := 0, code := some k7c8 }
def k7c9 : Code := { maxStack := 2, maxLocals := 3, code := jdk_42_method_151_code, exceptionTable := #[], attributes := #[] }
def k7m9 : Method := { name := "<init>", desc := "([BB)V", sig := { parameters := [(.array .byte), .byte], returnType := none }, accessFlags := 0, code := some k7c9 }
def k7c10 : Code := { maxStack := 1, maxLocals := 1, code := jdk_42_method_152_code, exceptionTable := #[], attributes := #[] }
def k7m10 : Method := { name := "coder", desc := "()B", sig := { parameters := [], returnType := some .byte }, accessFlags := 0, code := some k7c10 }
/-- java/lang/String -/
def k7 : Class := { plain "java/lang/String" (some 0) with
  accessFlags := 49
  interfaces := #[2, 3, 4, 5, 6]
  cf := some (fileOf pool7 10 #[.nestMembers #[1103]] #[{ accessFlags := 1, nameIndex := 5, descriptorIndex := 6, attributes := #[] }, { accessFlags := 1, nameIndex := 5, descriptorIndex := 1010, attributes := #[] }, { accessFlags := 1, nameIndex := 5, descriptorIndex := 1233, attributes := #[] }, { accessFlags := 1, nameIndex := 507, descriptorIndex := 334, attributes := #[] }, { accessFlags := 1, nameIndex := 543, descriptorIndex := 573, attributes := #[] }, { accessFlags := 9, nameIndex := 782, descriptorIndex := 783, attributes := #[] }, { accessFlags := 0, nameIndex := 532, descriptorIndex := 821, attributes := #[] }, { accessFlags := 2, nameIndex := 5, descriptorIndex := 29, attributes := #[] }, { accessFlags := 0, nameIndex := 5, descriptorIndex := 491, attributes := #[] }, { accessFlags := 0, nameIndex := 5, descriptorIndex := 211, attributes := #[] }, { accessFlags := 0, nameIndex := 17, descriptorIndex := 337, attributes := #[] }] 49 2 #[1106, 1108, 575, 1110, 1112] #[{ accessFlags := 18, nameIndex := 13, descriptorIndex := 14, attributes := #[] }, { accessFlags := 18, nameIndex := 17, descriptorIndex := 18, attributes := #[] }, { accessFlags := 2, nameIndex := 21, descriptorIndex := 22, attributes := #[] }, { accessFlags := 2, nameIndex := 25, descriptorIndex := 26, attributes := #[] }, { accessFlags := 26, nameIndex := 1116, descriptorIndex := 1117, attributes := #[] }, { accessFlags := 24, nameIndex := 40, descriptorIndex := 26, attributes := #[] }, { accessFlags := 26, nameIndex := 1101, descriptorIndex := 1102, attributes := #[] }, { accessFlags := 26, nameIndex := 1121, descriptorIndex := 1122, attributes := #[] }, { accessFlags := 25, nameIndex := 599, descriptorIndex := 600, attributes := #[] }, { accessFlags := 24, nameIndex := 1125, descriptorIndex := 18, attributes := #[] }, { accessFlags := 24, nameIndex := 1127, descriptorIndex := 18, attributes := #[] }])
  fields := #[{ name := "value", type := (.array .byte), accessFlags := 18, slot := 0, constantValue := 0 }, { name := "coder", type := .byte, accessFlags := 18, slot := 1, constantValue := 0 }, { name := "hash", type := .int, accessFlags := 2, slot := 2, constantValue := 0 }, { name := "hashIsZero", type := .boolean, accessFlags := 2, slot := 3, constantValue := 0 }, { name := "serialVersionUID", type := .long, accessFlags := 26, slot := 0, constantValue := 0 }, { name := "COMPACT_STRINGS", type := .boolean, accessFlags := 24, slot := 1, constantValue := 0 }, { name := "serialPersistentFields", type := (.array (.object "java/io/ObjectStreamField")), accessFlags := 26, slot := 2, constantValue := 0 }, { name := "REPL", type := .char, accessFlags := 26, slot := 3, constantValue := 0 }, { name := "CASE_INSENSITIVE_ORDER", type := (.object "java/util/Comparator"), accessFlags := 25, slot := 4, constantValue := 0 }, { name := "LATIN1", type := .byte, accessFlags := 24, slot := 5, constantValue := 0 }, { name := "UTF16", type := .byte, accessFlags := 24, slot := 6, constantValue := 0 }]
  methods := #[k7m0, k7m1, k7m2, k7m3, k7m4, k7m5, k7m6, k7m7, k7m8, k7m9, k7m10]
  instanceTypes := #[(.array .byte), .byte, .int, .boolean]
  staticTypes := #[.long, .boolean, (.array (.object "java/io/ObjectStreamField")), .char, (.object "java/util/Comparator"), .byte, .byte]
  resolved := Array.replicate 1451 none
  statics := some 0 }

def pool8 : Array CpInfo := pool [(6, .class_ 8), (1, u "java/lang/Object"), (0, u "<init>"), (0, u "()V"), (1, .class_ 14), (1, u "java/lang/StringUTF16"), (31, u "$assertionsDisabled"), (0, u "Z"), (13, u "HI_BYTE_SHIFT"), (0, u "I"), (2, u "LO_BYTE_SHIFT"), (49, .methodref 12 116), (0, .nameAndType 117 118), (0, u "compress"), (0, u "([CI[BII)I"), (3, u "([CII)[B"), (138, u "coderFromArrayLen"), (0, u "([BI)B"), (106, .class_ 371), (1, u "java/lang/StringUTF16$LinesSpliterator"), (58, u "MAX_LENGTH"), (196, .class_ 628), (0, u "java/lang/StringUTF16$CodePointsSpliterator"), (0, .class_ 630), (0, u "java/lang/StringUTF16$CharsSpliterator")] 4

def k8m0 : Method := { name := "<init>", desc := "()V", sig := { parameters := [], returnType := none }, accessFlags := 0, code := none }
def k8c1 : Code := { maxStack := 2, maxLocals := 2, code := jdk_52_method_15_code, exceptionTable := #[], attributes := #[] }
def k8m1 : Method := { name := "coderFromArrayLen", desc := "([BI)B", sig := { parameters := [(.array .byte), .int], returnType := some .byte }, accessFlags := 8, code := some k8c1 }
def k8c2 : Code := { maxStack := 5, maxLocals := 6, code := jdk_52_method_16_code, exceptionTable := #[], attributes := #[] }
def k8m2 : Method := { name := "compress", desc := "([CII)[B", sig := { parameters := [(.array .char), .int, .int], returnType := some (.array .byte) }, accessFlags := 9, code := some k8c2 }
def k8c3 : Code := { maxStack := 3, maxLocals := 7, code := jdk_52_method_21_code, exceptionTable := #[], attributes := #[] }
def k8m3 : Method := { name := "compress", desc := "([CI[BII)I", sig := { parameters := [(.array .char), .int, (.array .byte), .int, .int], returnType := some .int }, accessFlags := 9, code := some k8c3 }
/-- java/lang/StringUTF16 -/
def k8 : Class := { plain "java/lang/StringUTF16" (some 0) with
  accessFlags := 48
  interfaces := #[]
  cf := some (fileOf pool8 12 #[.nestMembers #[627, 629, 369]] #[{ accessFlags := 0, nameIndex := 9, descriptorIndex := 10, attributes := #[] }, { accessFlags := 8, nameIndex := 261, descriptorIndex := 262, attributes := #[] }, { accessFlags := 9, nameIndex := 117, descriptorIndex := 122, attributes := #[] }, { accessFlags := 9, nameIndex := 117, descriptorIndex := 118, attributes := #[] }] 48 6 #[] #[{ accessFlags := 26, nameIndex := 61, descriptorIndex := 62, attributes := #[] }, { accessFlags := 26, nameIndex := 65, descriptorIndex := 62, attributes := #[] }, { accessFlags := 24, nameIndex := 430, descriptorIndex := 62, attributes := #[] }, { accessFlags := 4120, nameIndex := 46, descriptorIndex := 47, attributes := #[] }])
  fields := #[{ name := "HI_BYTE_SHIFT", type := .int, accessFlags := 26, slot := 0, constantValue := 0 }, { name := "LO_BYTE_SHIFT", type := .int, accessFlags := 26, slot := 1, constantValue := 0 }, { name := "MAX_LENGTH", type := .int, accessFlags := 24, slot := 2, constantValue := 0 }, { name := "$assertionsDisabled", type := .boolean, accessFlags := 4120, slot := 3, constantValue := 0 }]
  methods := #[k8m0, k8m1, k8m2, k8m3]
  instanceTypes := #[]
  staticTypes := #[.int, .int, .int, .boolean]
  resolved := Array.replicate 635 none
  statics := none }

def pool9 : Array CpInfo := pool [(4, .class_ 6), (1, u "java/lang/Object"), (0, u "<init>"), (0, u "()V"), (5, .class_ 16), (1, u "java/lang/StringLatin1"), (73, u "canEncode"), (14, u "(C)Z"), (15, u "$assertionsDisabled"), (0, u "Z"), (98, .class_ 223), (1, u "java/lang/StringLatin1$LinesSpliterator"), (57, u "equals"), (0, u "([B[B)Z"), (97, u "toBytes"), (1, u "(C)[B"), (7, .class_ 391), (0, u "java/lang/StringLatin1$CharsSpliterator")] 3

def k9m0 : Method := { name := "<init>", desc := "()V", sig := { parameters := [], returnType := none }, accessFlags := 0, code := none }
def k9c1 : Code := { maxStack := 2, maxLocals := 1, code := jdk_43_method_3_code, exceptionTable := #[], attributes := #[] }
def k9m1 : Method := { name := "canEncode", desc := "(C)Z", sig := { parameters := [.char], returnType := some .boolean }, accessFlags := 9, code := some k9c1 }
def k9c2 : Code := { maxStack := 3, maxLocals := 3, code := jdk_43_method_13_code, exceptionTable := #[], attributes := #[] }
def k9m2 : Method := { name := "equals", desc := "([B[B)Z", sig := { parameters := [(.array .byte), (.array .byte)], returnType := some .boolean }, accessFlags := 9, code := some k9c2 }
def k9c3 : Code := { maxStack := 4, maxLocals := 1, code := jdk_43_method_46_code, exceptionTable := #[], attributes := #[] }
def k9m3 : Method := { name := "toBytes", desc := "(C)[B", sig := { parameters := [.char], returnType := some (.array .byte) }, accessFlags := 9, code := some k9c3 }
/-- java/lang/StringLatin1 -/
def k9 : Class := { plain "java/lang/StringLatin1" (some 0) with
  accessFlags := 48
  interfaces := #[]
  cf := some (fileOf pool9 14 #[.nestMembers #[390, 221]] #[{ accessFlags := 0, nameIndex := 7, descriptorIndex := 8, attributes := #[] }, { accessFlags := 9, nameIndex := 90, descriptorIndex := 105, attributes := #[] }, { accessFlags := 9, nameIndex := 281, descriptorIndex := 282, attributes := #[] }, { accessFlags := 9, nameIndex := 380, descriptorIndex := 382, attributes := #[] }] 48 4 #[] #[{ accessFlags := 4120, nameIndex := 121, descriptorIndex := 122, attributes := #[] }])
  fields := #[{ name := "$assertionsDisabled", type := .boolean, accessFlags := 4120, slot := 0, constantValue := 0 }]
  methods := #[k9m0, k9m1, k9m2, k9m3]
  instanceTypes := #[]
  staticTypes := #[.boolean]
  resolved := Array.replicate 395 none
  statics := none }

def pool10 : Array CpInfo := pool [(2, .class_ 4), (1, u "java/lang/Enum"), (0, u "name"), (0, u "Ljava/lang/String;"), (2, u "ordinal"), (0, u "I"), (1, .class_ 14), (1, u "java/lang/Object"), (4, u "hash"), (86, .class_ 108), (1, u "java/lang/Enum$EnumDesc"), (2, .class_ 112), (0, u "java/lang/constant/Constable"), (0, .class_ 114), (0, u "java/lang/Comparable"), (0, .class_ 116), (0, u "java/io/Serializable")] 87

/-- java/lang/Enum -/
def k10 : Class := { plain "java/lang/Enum" (some 0) with
  accessFlags := 1057
  interfaces := #[5, 3, 2]
  cf := some (fileOf pool10 2 #[.nestMembers #[106]] #[] 1057 12 #[111, 113, 115] #[{ accessFlags := 18, nameIndex := 5, descriptorIndex := 6, attributes := #[] }, { accessFlags := 18, nameIndex := 9, descriptorIndex := 10, attributes := #[] }, { accessFlags := 2, nameIndex := 19, descriptorIndex := 10, attributes := #[] }])
  fields := #[{ name := "name", type := (.object "java/lang/String"), accessFlags := 18, slot := 0, constantValue := 0 }, { name := "ordinal", type := .int, accessFlags := 18, slot := 1, constantValue := 0 }, { name := "hash", type := .int, accessFlags := 2, slot := 2, constantValue := 0 }]
  methods := #[]
  instanceTypes := #[(.object "java/lang/String"), .int, .int]
  staticTypes := #[]
  resolved := Array.replicate 204 none
  statics := none }

def pool11 : Array CpInfo := pool [(1, .class_ 2), (0, u "com/example/estim365/estim365/cli/Option$Occurrence"), (2, u "REQUIRED"), (0, u "Lcom/example/estim365/estim365/cli/Option$Occurrence;"), (2, u "OPTIONAL"), (2, u "REPEATED"), (2, u "OPTIONAL_REPEATED"), (2, u "$VALUES"), (0, u "[Lcom/example/estim365/estim365/cli/Option$Occurrence;"), (6, .class_ 28), (1, u "java/lang/Enum"), (27, .class_ 57), (0, u "com/example/estim365/estim365/cli/Option")] 2

/-- com/example/estim365/estim365/cli/Option$Occurrence -/
def k11 : Class := { plain "com/example/estim365/estim365/cli/Option$Occurrence" (some 10) with
  accessFlags := 16432
  interfaces := #[]
  cf := some (fileOf pool11 1 #[.nestHost 56] #[] 16432 26 #[] #[{ accessFlags := 16409, nameIndex := 5, descriptorIndex := 6, attributes := #[] }, { accessFlags := 16409, nameIndex := 9, descriptorIndex := 6, attributes := #[] }, { accessFlags := 16409, nameIndex := 12, descriptorIndex := 6, attributes := #[] }, { accessFlags := 16409, nameIndex := 15, descriptorIndex := 6, attributes := #[] }, { accessFlags := 4122, nameIndex := 18, descriptorIndex := 19, attributes := #[] }])
  fields := #[{ name := "REQUIRED", type := (.object "com/example/estim365/estim365/cli/Option$Occurrence"), accessFlags := 16409, slot := 0, constantValue := 0 }, { name := "OPTIONAL", type := (.object "com/example/estim365/estim365/cli/Option$Occurrence"), accessFlags := 16409, slot := 1, constantValue := 0 }, { name := "REPEATED", type := (.object "com/example/estim365/estim365/cli/Option$Occurrence"), accessFlags := 16409, slot := 2, constantValue := 0 }, { name := "OPTIONAL_REPEATED", type := (.object "com/example/estim365/estim365/cli/Option$Occurrence"), accessFlags := 16409, slot := 3, constantValue := 0 }, { name := "$VALUES", type := (.array (.object "com/example/estim365/estim365/cli/Option$Occurrence")), accessFlags := 4122, slot := 4, constantValue := 0 }]
  methods := #[]
  instanceTypes := #[(.object "java/lang/String"), .int, .int]
  staticTypes := #[(.object "com/example/estim365/estim365/cli/Option$Occurrence"), (.object "com/example/estim365/estim365/cli/Option$Occurrence"), (.object "com/example/estim365/estim365/cli/Option$Occurrence"), (.object "com/example/estim365/estim365/cli/Option$Occurrence"), (.array (.object "com/example/estim365/estim365/cli/Option$Occurrence"))]
  resolved := Array.replicate 60 none
  statics := some 1 }

def pool12 : Array CpInfo := pool [(1, .methodref 2 3), (0, .class_ 4), (0, .nameAndType 5 6), (0, u "java/lang/Object"), (0, u "<init>"), (0, u "()V"), (0, .class_ 8), (0, u "java/lang/Record")] 13

def k12c0 : Code := { maxStack := 1, maxLocals := 1, code := jdk_30_method_1_code, exceptionTable := #[], attributes := #[] }
def k12m0 : Method := { name := "<init>", desc := "()V", sig := { parameters := [], returnType := none }, accessFlags := 4, code := some k12c0 }
/-- java/lang/Record -/
def k12 : Class := { plain "java/lang/Record" (some 0) with
  accessFlags := 1057
  interfaces := #[]
  cf := some (fileOf pool12 7 #[] #[{ accessFlags := 4, nameIndex := 5, descriptorIndex := 6, attributes := #[] }] 1057 2 #[] #[])
  fields := #[]
  methods := #[k12m0]
  instanceTypes := #[]
  staticTypes := #[]
  resolved := Array.replicate 22 none
  statics := none }

def pool13 : Array CpInfo := pool [(1, .methodref 2 3), (0, .class_ 4), (0, .nameAndType 5 6), (0, u "java/lang/Record"), (0, u "<init>"), (0, u "()V"), (0, .fieldref 8 9), (0, .class_ 10), (0, .nameAndType 11 12), (0, u "com/example/estim365/estim365/cli/Option"), (0, u "name"), (0, u "Ljava/lang/String;"), (0, .fieldref 8 14), (0, .nameAndType 15 12), (0, u "value"), (0, .fieldref 8 17), (0, .nameAndType 18 19), (0, u "occurrence"), (0, u "Lcom/example/estim365/estim365/cli/Option$Occurrence;"), (0, .fieldref 8 21), (0, .nameAndType 22 12), (0, u "description"), (1, .class_ 26), (1, u "com/example/estim365/estim365/cli/Option$Occurrence"), (1, .methodref 8 29), (0, .nameAndType 5 30), (0, u "(Ljava/lang/String;Ljava/lang/String;Lcom/example/estim365/estim365/cli/Option$Occurrence;Ljava/lang/String;)V"), (0, .fieldref 24 32), (0, .nameAndType 33 19), (0, u "OPTIONAL"), (6, .methodref 8 41), (0, .nameAndType 42 43), (0, u "isFlag"), (0, u "()Z"), (0, .class_ 45), (0, u "java/lang/StringBuilder"), (0, .methodref 44 3), (0, .methodref 44 48), (0, .nameAndType 49 50), (0, u "append"), (0, u "(Ljava/lang/String;)Ljava/lang/StringBuilder;"), (0, .string 52), (0, u " "), (0, .methodref 44 54), (0, .nameAndType 55 56), (0, u "toString"), (0, u "()Ljava/lang/String;"), (11, u "given"), (27, u "flag"), (0, u "(Ljava/lang/String;Ljava/lang/String;)Lcom/example/estim365/estim365/cli/Option;")] 31

def k13c0 : Code := { maxStack := 2, maxLocals := 5, code := prog_5_method_1_code, exceptionTable := #[], attributes := #[] }
def k13m0 : Method := { name := "<init>", desc := "(Ljava/lang/String;Ljava/lang/String;Lcom/example/estim365/estim365/cli/Option$Occurrence;Ljava/lang/String;)V", sig := { parameters := [(.object "java/lang/String"), (.object "java/lang/String"), (.object "com/example/estim365/estim365/cli/Option$Occurrence"), (.object "java/lang/String")], returnType := none }, accessFlags := 0, code := some k13c0 }
def k13c1 : Code := { maxStack := 6, maxLocals := 2, code := prog_5_method_6_code, exceptionTable := #[], attributes := #[] }
def k13m1 : Method := { name := "flag", desc := "(Ljava/lang/String;Ljava/lang/String;)Lcom/example/estim365/estim365/cli/Option;", sig := { parameters := [(.object "java/lang/String"), (.object "java/lang/String")], returnType := some (.object "com/example/estim365/estim365/cli/Option") }, accessFlags := 8, code := some k13c1 }
def k13c2 : Code := { maxStack := 1, maxLocals := 1, code := prog_5_method_7_code, exceptionTable := #[], attributes := #[] }
def k13m2 : Method := { name := "isFlag", desc := "()Z", sig := { parameters := [], returnType := some .boolean }, accessFlags := 0, code := some k13c2 }
def k13c3 : Code := { maxStack := 2, maxLocals := 1, code := prog_5_method_8_code, exceptionTable := #[], attributes := #[] }
def k13m3 : Method := { name := "given", desc := "()Ljava/lang/String;", sig := { parameters := [], returnType := some (.object "java/lang/String") }, accessFlags := 0, code := some k13c3 }
/-- com/example/estim365/estim365/cli/Option -/
def k13 : Class := { plain "com/example/estim365/estim365/cli/Option" (some 12) with
  accessFlags := 48
  interfaces := #[]
  cf := some (fileOf pool13 8 #[.nestMembers #[24]] #[{ accessFlags := 0, nameIndex := 5, descriptorIndex := 30, attributes := #[] }, { accessFlags := 8, nameIndex := 96, descriptorIndex := 97, attributes := #[] }, { accessFlags := 0, nameIndex := 42, descriptorIndex := 43, attributes := #[] }, { accessFlags := 0, nameIndex := 68, descriptorIndex := 56, attributes := #[] }] 48 2 #[] #[{ accessFlags := 18, nameIndex := 11, descriptorIndex := 12, attributes := #[] }, { accessFlags := 18, nameIndex := 15, descriptorIndex := 12, attributes := #[] }, { accessFlags := 18, nameIndex := 18, descriptorIndex := 19, attributes := #[] }, { accessFlags := 18, nameIndex := 22, descriptorIndex := 12, attributes := #[] }])
  fields := #[{ name := "name", type := (.object "java/lang/String"), accessFlags := 18, slot := 0, constantValue := 0 }, { name := "value", type := (.object "java/lang/String"), accessFlags := 18, slot := 1, constantValue := 0 }, { name := "occurrence", type := (.object "com/example/estim365/estim365/cli/Option$Occurrence"), accessFlags := 18, slot := 2, constantValue := 0 }, { name := "description", type := (.object "java/lang/String"), accessFlags := 18, slot := 3, constantValue := 0 }]
  methods := #[k13m0, k13m1, k13m2, k13m3]
  instanceTypes := #[(.object "java/lang/String"), (.object "java/lang/String"), (.object "com/example/estim365/estim365/cli/Option$Occurrence"), (.object "java/lang/String")]
  staticTypes := #[]
  resolved := Array.replicate 129 none
  statics := none }

def pool14 : Array CpInfo := pool [(1, .class_ 2), (0, u "java/lang/Appendable"), (0, .class_ 4), (0, u "java/lang/Object")] 9

/-- java/lang/Appendable -/
def k14 : Class := { plain "java/lang/Appendable" (some 0) with
  accessFlags := 1537
  interfaces := #[]
  cf := some (fileOf pool14 1 #[] #[] 1537 3 #[] #[])
  fields := #[]
  methods := #[]
  instanceTypes := #[]
  staticTypes := #[]
  resolved := Array.replicate 14 none
  statics := none }

def pool15 : Array CpInfo := pool [(1, .class_ 2), (0, u "java/lang/String"), (0, .methodref 4 5), (0, .class_ 6), (0, .nameAndType 7 8), (0, u "java/lang/Object"), (0, u "<init>"), (0, u "()V"), (1, .class_ 12), (1, u "java/lang/AbstractStringBuilder"), (0, u "EMPTYVALUE"), (0, u "[B"), (0, .fieldref 10 16), (0, .nameAndType 17 14), (0, u "value"), (0, .fieldref 1 19), (0, .nameAndType 20 21), (0, u "COMPACT_STRINGS"), (0, u "Z"), (0, .fieldref 10 23), (0, .nameAndType 24 25), (0, u "coder"), (0, u "B"), (6, .methodref 1 33), (0, .nameAndType 34 35), (0, u "length"), (0, u "()I"), (4, .methodref 1 41), (0, .nameAndType 24 42), (0, u "()B"), (2, u "append"), (0, u "(Ljava/lang/String;)Ljava/lang/AbstractStringBuilder;"), (1, .class_ 49), (0, u "java/lang/CharSequence"), (19, u "(Ljava/lang/String;)V"), (5, u "maybeLatin1"), (3, .fieldref 10 80), (0, .nameAndType 81 82), (0, u "count"), (0, u "I"), (2, u "isLatin1"), (0, u "()Z"), (13, .methodref 10 101), (0, .nameAndType 102 103), (0, u "ensureCapacityInternal"), (0, u "(I)V"), (104, .methodref 10 209), (0, .nameAndType 210 211), (0, u "putStringAt"), (0, u "(ILjava/lang/String;)V"), (5, u "inflateIfNeededFor"), (2, .nameAndType 221 222), (0, u "getBytes"), (0, u "([BIB)V"), (174, .methodref 10 398), (0, .nameAndType 217 69), (0, .methodref 1 220), (3, u "()[B"), (40, .class_ 445), (0, u "java/lang/Appendable"), (106, u "getValue")] 56

def k15m0 : Method := { name := "<init>", desc := "()V", sig := { parameters := [], returnType := none }, accessFlags := 0, code := none }
def k15c1 : Code := { maxStack := 2, maxLocals := 2, code := jdk_68_method_2_code, exceptionTable := #[], attributes := #[] }
def k15m1 : Method := { name := "<init>", desc := "(I)V", sig := { parameters := [.int], returnType := none }, accessFlags := 0, code := some k15c1 }
def k15c2 : Code := { maxStack := 1, maxLocals := 1, code := jdk_68_method_6_code, exceptionTable := #[], attributes := #[] }
def k15m2 : Method := { name := "length", desc := "()I", sig := { parameters := [], returnType := some .int }, accessFlags := 1, code := some k15c2 }
def k15c3 : Code := { maxStack := 4, maxLocals := 3, code := jdk_68_method_9_code, exceptionTable := #[], attributes := #[] }
def k15m3 : Method := { name := "ensureCapacityInternal", desc := "(I)V", sig := { parameters := [.int], returnType := none }, accessFlags := 2, code := some k15c3 }
def k15c4 : Code := { maxStack := 3, maxLocals := 3, code := jdk_68_method_22_code, exceptionTable := #[], attributes := #[] }
def k15m4 : Method := { name := "append", desc := "(Ljava/lang/String;)Ljava/lang/AbstractStringBuilder;", sig := { parameters := [(.object "java/lang/String")], returnType := some (.object "java/lang/AbstractStringBuilder") }, accessFlags := 1, code := some k15c4 }
def k15c5 : Code := { maxStack := 1, maxLocals := 1, code := jdk_68_method_64_code, exceptionTable := #[], attributes := #[] }
def k15m5 : Method := { name := "getValue", desc := "()[B", sig := { parameters := [], returnType := some (.array .byte) }, accessFlags := 16, code := some k15c5 }
def k15c6 : Code := { maxStack := 1, maxLocals := 1, code := jdk_68_method_68_code, exceptionTable := #[], attributes := #[] }
def k15m6 : Method := { name := "isLatin1", desc := "()Z", sig := { parameters := [], returnType := some .boolean }, accessFlags := 16, code := some k15c6 }
def k15c7 : Code := { maxStack := 2, maxLocals := 2, code := jdk_68_method_71_code, exceptionTable := #[], attributes := #[] }
def k15m7 : Method := { name := "inflateIfNeededFor", desc := "(Ljava/lang/String;)V", sig := { parameters := [(.object "java/lang/String")], returnType := none }, accessFlags := 2, code := some k15c7 }
def k15c8 : Code := { maxStack := 4, maxLocals := 3, code := jdk_68_method_73_code, exceptionTable := #[], attributes := #[] }
def k15m8 : Method := { name := "putStringAt", desc := "(ILjava/lang/String;)V", sig := { parameters := [.int, (.object "java/lang/String")], returnType := none }, accessFlags := 2, code := some k15c8 }
/-- java/lang/AbstractStringBuilder -/
def k15 : Class := { plain "java/lang/AbstractStringBuilder" (some 0) with
  accessFlags := 1056
  interfaces := #[14, 4]
  cf := some (fileOf pool15 10 #[] #[{ accessFlags := 0, nameIndex := 7, descriptorIndex := 8, attributes := #[] }, { accessFlags := 0, nameIndex := 7, descriptorIndex := 103, attributes := #[] }, { accessFlags := 1, nameIndex := 34, descriptorIndex := 35, attributes := #[] }, { accessFlags := 2, nameIndex := 102, descriptorIndex := 103, attributes := #[] }, { accessFlags := 1, nameIndex := 45, descriptorIndex := 46, attributes := #[] }, { accessFlags := 16, nameIndex := 552, descriptorIndex := 403, attributes := #[] }, { accessFlags := 16, nameIndex := 85, descriptorIndex := 86, attributes := #[] }, { accessFlags := 2, nameIndex := 217, descriptorIndex := 69, attributes := #[] }, { accessFlags := 2, nameIndex := 210, descriptorIndex := 211, attributes := #[] }] 1056 4 #[444, 48] #[{ accessFlags := 0, nameIndex := 17, descriptorIndex := 14, attributes := #[] }, { accessFlags := 0, nameIndex := 24, descriptorIndex := 25, attributes := #[] }, { accessFlags := 0, nameIndex := 75, descriptorIndex := 21, attributes := #[] }, { accessFlags := 0, nameIndex := 81, descriptorIndex := 82, attributes := #[] }, { accessFlags := 26, nameIndex := 13, descriptorIndex := 14, attributes := #[] }])
  fields := #[{ name := "value", type := (.array .byte), accessFlags := 0, slot := 0, constantValue := 0 }, { name := "coder", type := .byte, accessFlags := 0, slot := 1, constantValue := 0 }, { name := "maybeLatin1", type := .boolean, accessFlags := 0, slot := 2, constantValue := 0 }, { name := "count", type := .int, accessFlags := 0, slot := 3, constantValue := 0 }, { name := "EMPTYVALUE", type := (.array .byte), accessFlags := 26, slot := 0, constantValue := 0 }]
  methods := #[k15m0, k15m1, k15m2, k15m3, k15m4, k15m5, k15m6, k15m7, k15m8]
  instanceTypes := #[(.array .byte), .byte, .boolean, .int]
  staticTypes := #[(.array .byte)]
  resolved := Array.replicate 609 none
  statics := none }

def pool16 : Array CpInfo := pool [(1, .methodref 2 3), (0, .class_ 4), (0, .nameAndType 5 6), (0, u "java/lang/AbstractStringBuilder"), (0, u "<init>"), (0, u "(I)V"), (11, .class_ 20), (1, u "java/lang/String"), (3, .class_ 26), (1, u "java/lang/StringBuilder"), (0, u "append"), (0, u "(Ljava/lang/String;)Ljava/lang/StringBuilder;"), (0, .methodref 2 30), (0, .nameAndType 27 31), (0, u "(Ljava/lang/String;)Ljava/lang/AbstractStringBuilder;"), (105, .methodref 18 138), (0, .nameAndType 5 139), (0, u "(Ljava/lang/StringBuilder;)V"), (5, u "()V"), (10, u "()I"), (186, .methodref 2 344), (0, .nameAndType 345 156), (0, u "length"), (3, .class_ 350), (0, u "java/lang/Appendable"), (0, .class_ 352), (0, u "java/io/Serializable"), (0, .class_ 354), (0, u "java/lang/Comparable"), (0, .class_ 356), (0, u "java/lang/CharSequence"), (0, u "serialVersionUID"), (0, u "J"), (40, u "toString"), (0, u "()Ljava/lang/String;")] 21

def k16c0 : Code := { maxStack := 2, maxLocals := 1, code := jdk_67_method_1_code, exceptionTable := #[], attributes := #[] }
def k16m0 : Method := { name := "<init>", desc := "()V", sig := { parameters := [], returnType := none }, accessFlags := 1, code := some k16c0 }
def k16c1 : Code := { maxStack := 2, maxLocals := 2, code := jdk_67_method_7_code, exceptionTable := #[], attributes := #[] }
def k16m1 : Method := { name := "append", desc := "(Ljava/lang/String;)Ljava/lang/StringBuilder;", sig := { parameters := [(.object "java/lang/String")], returnType := some (.object "java/lang/StringBuilder") }, accessFlags := 1, code := some k16c1 }
def k16c2 : Code := { maxStack := 3, maxLocals := 1, code := jdk_67_method_42_code, exceptionTable := #[], attributes := #[] }
def k16m2 : Method := { name := "toString", desc := "()Ljava/lang/String;", sig := { parameters := [], returnType := some (.object "java/lang/String") }, accessFlags := 1, code := some k16c2 }
def k16c3 : Code := { maxStack := 1, maxLocals := 1, code := jdk_67_method_93_code, exceptionTable := #[], attributes := #[] }
def k16m3 : Method := { name := "length", desc := "()I", sig := { parameters := [], returnType := some .int }, accessFlags := 4161, code := some k16c3 }
/-- java/lang/StringBuilder -/
def k16 : Class := { plain "java/lang/StringBuilder" (some 15) with
  accessFlags := 49
  interfaces := #[14, 2, 3, 4]
  cf := some (fileOf pool16 24 #[] #[{ accessFlags := 1, nameIndex := 5, descriptorIndex := 145, attributes := #[] }, { accessFlags := 1, nameIndex := 27, descriptorIndex := 28, attributes := #[] }, { accessFlags := 1, nameIndex := 399, descriptorIndex := 400, attributes := #[] }, { accessFlags := 4161, nameIndex := 345, descriptorIndex := 156, attributes := #[] }] 49 2 #[349, 351, 353, 355] #[{ accessFlags := 24, nameIndex := 357, descriptorIndex := 358, attributes := #[] }])
  fields := #[{ name := "serialVersionUID", type := .long, accessFlags := 24, slot := 0, constantValue := 0 }]
  methods := #[k16m0, k16m1, k16m2, k16m3]
  instanceTypes := #[(.array .byte), .byte, .boolean, .int]
  staticTypes := #[.long]
  resolved := Array.replicate 422 none
  statics := none }

def pool17 : Array CpInfo := pool [(2, .class_ 4), (1, u "java/lang/Object"), (0, u "<init>"), (0, u "()V"), (1, .class_ 10), (1, u "java/lang/System"), (0, u "allowSecurityManager"), (0, u "I"), (16, u "cons"), (0, u "Ljava/io/Console;"), (77, .class_ 110), (1, u "java/lang/System$CallersHolder"), (43, u "initialErrStream"), (0, u "Ljava/io/PrintStream;"), (19, u "security"), (0, u "Ljava/lang/SecurityManager;"), (31, .class_ 209), (0, u "java/lang/System$1"), (7, u "props"), (0, u "Ljava/util/Properties;"), (2, u "lineSeparator"), (0, u "Ljava/lang/String;"), (96, .class_ 321), (1, u "java/lang/System$LoggerFinder"), (5, .class_ 328), (0, u "java/lang/System$Logger"), (67, u "err"), (2, u "out"), (91, u "notSupportedJnuEncoding"), (15, u "in"), (17, u "initialIn"), (0, u "Ljava/io/InputStream;"), (35, u "bootLayer"), (0, u "Ljava/lang/ModuleLayer;"), (99, .class_ 664), (0, u "java/lang/System$2"), (9, u "NEVER"), (2, u "MAYBE"), (49, u "arraycopy"), (0, u "(Ljava/lang/Object;ILjava/lang/Object;II)V"), (72, .class_ 802), (0, u "java/lang/System$Logger$Level")] 31

def k17m0 : Method := { name := "<init>", desc := "()V", sig := { parameters := [], returnType := none }, accessFlags := 2, code := none }
def k17m1 : Method := { name := "arraycopy", desc := "(Ljava/lang/Object;ILjava/lang/Object;II)V", sig := { parameters := [(.object "java/lang/Object"), .int, (.object "java/lang/Object"), .int, .int], returnType := none }, accessFlags := 265, code := none }
/-- java/lang/System -/
def k17 : Class := { plain "java/lang/System" (some 0) with
  accessFlags := 49
  interfaces := #[]
  cf := some (fileOf pool17 8 #[.nestMembers #[319, 327, 801, 108, 663, 208]] #[{ accessFlags := 2, nameIndex := 5, descriptorIndex := 6, attributes := #[] }, { accessFlags := 265, nameIndex := 727, descriptorIndex := 728, attributes := #[] }] 49 2 #[] #[{ accessFlags := 25, nameIndex := 507, descriptorIndex := 526, attributes := #[] }, { accessFlags := 25, nameIndex := 399, descriptorIndex := 155, attributes := #[] }, { accessFlags := 25, nameIndex := 396, descriptorIndex := 155, attributes := #[] }, { accessFlags := 10, nameIndex := 525, descriptorIndex := 526, attributes := #[] }, { accessFlags := 26, nameIndex := 674, descriptorIndex := 12, attributes := #[] }, { accessFlags := 26, nameIndex := 677, descriptorIndex := 12, attributes := #[] }, { accessFlags := 10, nameIndex := 11, descriptorIndex := 12, attributes := #[] }, { accessFlags := 74, nameIndex := 175, descriptorIndex := 176, attributes := #[] }, { accessFlags := 10, nameIndex := 491, descriptorIndex := 222, attributes := #[] }, { accessFlags := 74, nameIndex := 29, descriptorIndex := 30, attributes := #[] }, { accessFlags := 74, nameIndex := 154, descriptorIndex := 155, attributes := #[] }, { accessFlags := 10, nameIndex := 217, descriptorIndex := 218, attributes := #[] }, { accessFlags := 10, nameIndex := 221, descriptorIndex := 222, attributes := #[] }, { accessFlags := 8, nameIndex := 562, descriptorIndex := 563, attributes := #[] }])
  fields := #[{ name := "in", type := (.object "java/io/InputStream"), accessFlags := 25, slot := 0, constantValue := 0 }, { name := "out", type := (.object "java/io/PrintStream"), accessFlags := 25, slot := 1, constantValue := 0 }, { name := "err", type := (.object "java/io/PrintStream"), accessFlags := 25, slot := 2, constantValue := 0 }, { name := "initialIn", type := (.object "java/io/InputStream"), accessFlags := 10, slot := 3, constantValue := 0 }, { name := "NEVER", type := .int, accessFlags := 26, slot := 4, constantValue := 0 }, { name := "MAYBE", type := .int, accessFlags := 26, slot := 5, constantValue := 0 }, { name := "allowSecurityManager", type := .int, accessFlags := 10, slot := 6, constantValue := 0 }, { name := "security", type := (.object "java/lang/SecurityManager"), accessFlags := 74, slot := 7, constantValue := 0 }, { name := "notSupportedJnuEncoding", type := (.object "java/lang/String"), accessFlags := 10, slot := 8, constantValue := 0 }, { name := "cons", type := (.object "java/io/Console"), accessFlags := 74, slot := 9, constantValue := 0 }, { name := "initialErrStream", type := (.object "java/io/PrintStream"), accessFlags := 74, slot := 10, constantValue := 0 }, { name := "props", type := (.object "java/util/Properties"), accessFlags := 10, slot := 11, constantValue := 0 }, { name := "lineSeparator", type := (.object "java/lang/String"), accessFlags := 10, slot := 12, constantValue := 0 }, { name := "bootLayer", type := (.object "java/lang/ModuleLayer"), accessFlags := 8, slot := 13, constantValue := 0 }]
  methods := #[k17m0, k17m1]
  instanceTypes := #[]
  staticTypes := #[(.object "java/io/InputStream"), (.object "java/io/PrintStream"), (.object "java/io/PrintStream"), (.object "java/io/InputStream"), .int, .int, .int, (.object "java/lang/SecurityManager"), (.object "java/lang/String"), (.object "java/io/Console"), (.object "java/io/PrintStream"), (.object "java/util/Properties"), (.object "java/lang/String"), (.object "java/lang/ModuleLayer")]
  resolved := Array.replicate 834 none
  statics := none }

def pool18 : Array CpInfo := pool [(2, .class_ 4), (1, u "java/lang/Object"), (0, u "<init>"), (0, u "()V"), (7, .class_ 16), (1, u "java/util/Arrays"), (57, .class_ 76), (1, u "java/util/Arrays$NaturalOrder"), (36, .class_ 115), (1, u "java/util/Arrays$LegacyMergeSort"), (1, u "Z"), (21, u "copyOfRange"), (10, .methodref 151 152), (0, .class_ 153), (0, .nameAndType 154 155), (0, u "java/lang/System"), (0, u "arraycopy"), (0, u "(Ljava/lang/Object;ILjava/lang/Object;II)V"), (148, .methodref 305 306), (0, .class_ 307), (0, .nameAndType 308 309), (0, u "java/lang/Math"), (0, u "min"), (0, u "(II)I"), (29, .methodref 14 340), (0, .nameAndType 341 342), (0, u "copyOfRangeByte"), (0, u "([BII)[B"), (0, .methodref 14 344), (0, .nameAndType 345 346), (0, u "checkLength"), (0, u "(II)V"), (28, .class_ 376), (0, u "java/util/Arrays$ArrayList"), (68, u "$assertionsDisabled"), (269, u "MIN_ARRAY_SORT_GRAN"), (0, u "I"), (2, u "INSERTIONSORT_THRESHOLD"), (255, .class_ 976), (0, u "java/util/Arrays$ArrayItr")] 52

def k18m0 : Method := { name := "<init>", desc := "()V", sig := { parameters := [], returnType := none }, accessFlags := 2, code := none }
def k18c1 : Code := { maxStack := 4, maxLocals := 2, code := jdk_65_method_131_code, exceptionTable := #[], attributes := #[] }
def k18m1 : Method := { name := "checkLength", desc := "(II)V", sig := { parameters := [.int, .int], returnType := none }, accessFlags := 10, code := some k18c1 }
def k18c2 : Code := { maxStack := 3, maxLocals := 3, code := jdk_65_method_132_code, exceptionTable := #[], attributes := #[] }
def k18m2 : Method := { name := "copyOfRange", desc := "([BII)[B", sig := { parameters := [(.array .byte), .int, .int], returnType := some (.array .byte) }, accessFlags := 9, code := some k18c2 }
def k18c3 : Code := { maxStack := 6, maxLocals := 5, code := jdk_65_method_133_code, exceptionTable := #[], attributes := #[] }
def k18m3 : Method := { name := "copyOfRangeByte", desc := "([BII)[B", sig := { parameters := [(.array .byte), .int, .int], returnType := some (.array .byte) }, accessFlags := 10, code := some k18c3 }
/-- java/util/Arrays -/
def k18 : Class := { plain "java/util/Arrays" (some 0) with
  accessFlags := 49
  interfaces := #[]
  cf := some (fileOf pool18 14 #[.nestMembers #[975, 375, 113, 74]] #[{ accessFlags := 2, nameIndex := 5, descriptorIndex := 6, attributes := #[] }, { accessFlags := 10, nameIndex := 345, descriptorIndex := 346, attributes := #[] }, { accessFlags := 9, nameIndex := 139, descriptorIndex := 342, attributes := #[] }, { accessFlags := 10, nameIndex := 341, descriptorIndex := 342, attributes := #[] }] 49 2 #[] #[{ accessFlags := 26, nameIndex := 715, descriptorIndex := 716, attributes := #[] }, { accessFlags := 26, nameIndex := 719, descriptorIndex := 716, attributes := #[] }, { accessFlags := 4120, nameIndex := 445, descriptorIndex := 117, attributes := #[] }])
  fields := #[{ name := "MIN_ARRAY_SORT_GRAN", type := .int, accessFlags := 26, slot := 0, constantValue := 0 }, { name := "INSERTIONSORT_THRESHOLD", type := .int, accessFlags := 26, slot := 1, constantValue := 0 }, { name := "$assertionsDisabled", type := .boolean, accessFlags := 4120, slot := 2, constantValue := 0 }]
  methods := #[k18m0, k18m1, k18m2, k18m3]
  instanceTypes := #[]
  staticTypes := #[.int, .int, .boolean]
  resolved := Array.replicate 1029 none
  statics := none }

def pool19 : Array CpInfo := pool [(1, .class_ 2), (0, u "java/lang/Math"), (1, .class_ 6), (1, u "java/lang/Object"), (0, u "<init>"), (0, u "()V"), (89, .class_ 100), (1, u "java/lang/Math$RandomNumberGeneratorHolder"), (71, u "negativeZeroFloatBits"), (0, u "J"), (2, u "negativeZeroDoubleBits"), (24, u "min"), (43, u "$assertionsDisabled"), (0, u "Z"), (88, u "(II)I"), (2, u "twoToTheDoubleScaleDown"), (0, u "D"), (4, u "twoToTheDoubleScaleUp"), (9, u "E"), (3, u "PI"), (2, u "TAU"), (2, u "DEGREES_TO_RADIANS"), (0, u "RADIANS_TO_DEGREES")] 94

def k19m0 : Method := { name := "<init>", desc := "()V", sig := { parameters := [], returnType := none }, accessFlags := 2, code := none }
def k19c1 : Code := { maxStack := 2, maxLocals := 2, code := jdk_29_method_69_code, exceptionTable := #[], attributes := #[] }
def k19m1 : Method := { name := "min", desc := "(II)I", sig := { parameters := [.int, .int], returnType := some .int }, accessFlags := 9, code := some k19c1 }
/-- java/lang/Math -/
def k19 : Class := { plain "java/lang/Math" (some 0) with
  accessFlags := 49
  interfaces := #[]
  cf := some (fileOf pool19 1 #[.nestMembers #[98]] #[{ accessFlags := 2, nameIndex := 7, descriptorIndex := 8, attributes := #[] }, { accessFlags := 9, nameIndex := 201, descriptorIndex := 335, attributes := #[] }] 49 4 #[] #[{ accessFlags := 25, nameIndex := 354, descriptorIndex := 339, attributes := #[] }, { accessFlags := 25, nameIndex := 358, descriptorIndex := 339, attributes := #[] }, { accessFlags := 25, nameIndex := 361, descriptorIndex := 339, attributes := #[] }, { accessFlags := 26, nameIndex := 364, descriptorIndex := 339, attributes := #[] }, { accessFlags := 26, nameIndex := 365, descriptorIndex := 339, attributes := #[] }, { accessFlags := 26, nameIndex := 172, descriptorIndex := 173, attributes := #[] }, { accessFlags := 26, nameIndex := 176, descriptorIndex := 173, attributes := #[] }, { accessFlags := 8, nameIndex := 344, descriptorIndex := 339, attributes := #[] }, { accessFlags := 8, nameIndex := 338, descriptorIndex := 339, attributes := #[] }, { accessFlags := 4120, nameIndex := 245, descriptorIndex := 246, attributes := #[] }])
  fields := #[{ name := "E", type := .double, accessFlags := 25, slot := 0, constantValue := 0 }, { name := "PI", type := .double, accessFlags := 25, slot := 1, constantValue := 0 }, { name := "TAU", type := .double, accessFlags := 25, slot := 2, constantValue := 0 }, { name := "DEGREES_TO_RADIANS", type := .double, accessFlags := 26, slot := 3, constantValue := 0 }, { name := "RADIANS_TO_DEGREES", type := .double, accessFlags := 26, slot := 4, constantValue := 0 }, { name := "negativeZeroFloatBits", type := .long, accessFlags := 26, slot := 5, constantValue := 0 }, { name := "negativeZeroDoubleBits", type := .long, accessFlags := 26, slot := 6, constantValue := 0 }, { name := "twoToTheDoubleScaleUp", type := .double, accessFlags := 8, slot := 7, constantValue := 0 }, { name := "twoToTheDoubleScaleDown", type := .double, accessFlags := 8, slot := 8, constantValue := 0 }, { name := "$assertionsDisabled", type := .boolean, accessFlags := 4120, slot := 9, constantValue := 0 }]
  methods := #[k19m0, k19m1]
  instanceTypes := #[]
  staticTypes := #[.double, .double, .double, .double, .double, .long, .long, .double, .double, .boolean]
  resolved := Array.replicate 460 none
  statics := none }

def pool20 : Array CpInfo := pool [(2, .class_ 4), (1, u "java/lang/Object"), (0, u "<init>"), (0, u "()V"), (17, .class_ 26), (1, u "jdk/internal/util/Preconditions"), (28, .class_ 56), (0, u "jdk/internal/util/Preconditions$4"), (57, .class_ 115), (0, u "jdk/internal/util/Preconditions$1"), (7, u "SIOOBE_FORMATTER"), (0, u "Ljava/util/function/BiFunction;"), (0, .class_ 126), (0, u "jdk/internal/util/Preconditions$2"), (3, u "AIOOBE_FORMATTER"), (0, .class_ 132), (0, u "jdk/internal/util/Preconditions$3"), (3, u "IOOBE_FORMATTER")] 57

def k20m0 : Method := { name := "<init>", desc := "()V", sig := { parameters := [], returnType := none }, accessFlags := 1, code := none }
/-- jdk/internal/util/Preconditions -/
def k20 : Class := { plain "jdk/internal/util/Preconditions" (some 0) with
  accessFlags := 33
  interfaces := #[]
  cf := some (fileOf pool20 24 #[.nestMembers #[55, 131, 125, 114]] #[{ accessFlags := 1, nameIndex := 5, descriptorIndex := 6, attributes := #[] }] 33 2 #[] #[{ accessFlags := 25, nameIndex := 123, descriptorIndex := 124, attributes := #[] }, { accessFlags := 25, nameIndex := 130, descriptorIndex := 124, attributes := #[] }, { accessFlags := 25, nameIndex := 136, descriptorIndex := 124, attributes := #[] }])
  fields := #[{ name := "SIOOBE_FORMATTER", type := (.object "java/util/function/BiFunction"), accessFlags := 25, slot := 0, constantValue := 0 }, { name := "AIOOBE_FORMATTER", type := (.object "java/util/function/BiFunction"), accessFlags := 25, slot := 1, constantValue := 0 }, { name := "IOOBE_FORMATTER", type := (.object "java/util/function/BiFunction"), accessFlags := 25, slot := 2, constantValue := 0 }]
  methods := #[k20m0]
  instanceTypes := #[]
  staticTypes := #[(.object "java/util/function/BiFunction"), (.object "java/util/function/BiFunction"), (.object "java/util/function/BiFunction")]
  resolved := Array.replicate 194 none
  statics := some 2 }

def pool21 : Array CpInfo := pool [(9, u "<init>"), (6, .class_ 18), (1, u "java/lang/Object"), (0, u "()V"), (1, .class_ 23), (1, u "jdk/internal/util/ArraysSupport"), (0, u "LOG2_ARRAY_LONG_INDEX_SCALE"), (0, u "I"), (2, u "U"), (0, u "Ljdk/internal/misc/Unsafe;"), (8, u "BIG_ENDIAN"), (0, u "Z"), (8, u "LOG2_BYTE_BIT_SIZE"), (4, u "LOG2_ARRAY_INT_INDEX_SCALE"), (54, u "JLA"), (0, u "Ljdk/internal/access/JavaLangAccess;"), (11, u "LOG2_ARRAY_BOOLEAN_INDEX_SCALE"), (9, u "LOG2_ARRAY_BYTE_INDEX_SCALE"), (5, u "LOG2_ARRAY_CHAR_INDEX_SCALE"), (5, u "LOG2_ARRAY_SHORT_INDEX_SCALE"), (18, u "LOG2_ARRAY_FLOAT_INDEX_SCALE"), (24, u "LOG2_ARRAY_DOUBLE_INDEX_SCALE"), (89, u "T_BOOLEAN"), (2, u "T_CHAR"), (1, u "T_FLOAT"), (1, u "T_DOUBLE"), (1, u "T_BYTE"), (1, u "T_SHORT"), (1, u "T_INT"), (1, u "T_LONG"), (1, u "SOFT_MAX_ARRAY_LENGTH")] 83

def k21m0 : Method := { name := "<init>", desc := "()V", sig := { parameters := [], returnType := none }, accessFlags := 2, code := none }
/-- jdk/internal/util/ArraysSupport -/
def k21 : Class := { plain "jdk/internal/util/ArraysSupport" (some 0) with
  accessFlags := 33
  interfaces := #[]
  cf := some (fileOf pool21 21 #[] #[{ accessFlags := 2, nameIndex := 9, descriptorIndex := 19, attributes := #[] }] 33 16 #[] #[{ accessFlags := 24, nameIndex := 28, descriptorIndex := 29, attributes := #[] }, { accessFlags := 26, nameIndex := 38, descriptorIndex := 39, attributes := #[] }, { accessFlags := 25, nameIndex := 121, descriptorIndex := 25, attributes := #[] }, { accessFlags := 25, nameIndex := 131, descriptorIndex := 25, attributes := #[] }, { accessFlags := 25, nameIndex := 137, descriptorIndex := 25, attributes := #[] }, { accessFlags := 25, nameIndex := 143, descriptorIndex := 25, attributes := #[] }, { accessFlags := 25, nameIndex := 53, descriptorIndex := 25, attributes := #[] }, { accessFlags := 25, nameIndex := 24, descriptorIndex := 25, attributes := #[] }, { accessFlags := 25, nameIndex := 162, descriptorIndex := 25, attributes := #[] }, { accessFlags := 25, nameIndex := 187, descriptorIndex := 25, attributes := #[] }, { accessFlags := 26, nameIndex := 48, descriptorIndex := 25, attributes := #[] }, { accessFlags := 25, nameIndex := 277, descriptorIndex := 25, attributes := #[] }, { accessFlags := 25, nameIndex := 280, descriptorIndex := 25, attributes := #[] }, { accessFlags := 25, nameIndex := 282, descriptorIndex := 25, attributes := #[] }, { accessFlags := 25, nameIndex := 284, descriptorIndex := 25, attributes := #[] }, { accessFlags := 25, nameIndex := 286, descriptorIndex := 25, attributes := #[] }, { accessFlags := 25, nameIndex := 288, descriptorIndex := 25, attributes := #[] }, { accessFlags := 25, nameIndex := 290, descriptorIndex := 25, attributes := #[] }, { accessFlags := 25, nameIndex := 292, descriptorIndex := 25, attributes := #[] }, { accessFlags := 26, nameIndex := 108, descriptorIndex := 109, attributes := #[] }, { accessFlags := 25, nameIndex := 294, descriptorIndex := 25, attributes := #[] }])
  fields := #[{ name := "U", type := (.object "jdk/internal/misc/Unsafe"), accessFlags := 24, slot := 0, constantValue := 0 }, { name := "BIG_ENDIAN", type := .boolean, accessFlags := 26, slot := 1, constantValue := 0 }, { name := "LOG2_ARRAY_BOOLEAN_INDEX_SCALE", type := .int, accessFlags := 25, slot := 2, constantValue := 0 }, { name := "LOG2_ARRAY_BYTE_INDEX_SCALE", type := .int, accessFlags := 25, slot := 3, constantValue := 0 }, { name := "LOG2_ARRAY_CHAR_INDEX_SCALE", type := .int, accessFlags := 25, slot := 4, constantValue := 0 }, { name := "LOG2_ARRAY_SHORT_INDEX_SCALE", type := .int, accessFlags := 25, slot := 5, constantValue := 0 }, { name := "LOG2_ARRAY_INT_INDEX_SCALE", type := .int, accessFlags := 25, slot := 6, constantValue := 0 }, { name := "LOG2_ARRAY_LONG_INDEX_SCALE", type := .int, accessFlags := 25, slot := 7, constantValue := 0 }, { name := "LOG2_ARRAY_FLOAT_INDEX_SCALE", type := .int, accessFlags := 25, slot := 8, constantValue := 0 }, { name := "LOG2_ARRAY_DOUBLE_INDEX_SCALE", type := .int, accessFlags := 25, slot := 9, constantValue := 0 }, { name := "LOG2_BYTE_BIT_SIZE", type := .int, accessFlags := 26, slot := 10, constantValue := 0 }, { name := "T_BOOLEAN", type := .int, accessFlags := 25, slot := 11, constantValue := 0 }, { name := "T_CHAR", type := .int, accessFlags := 25, slot := 12, constantValue := 0 }, { name := "T_FLOAT", type := .int, accessFlags := 25, slot := 13, constantValue := 0 }, { name := "T_DOUBLE", type := .int, accessFlags := 25, slot := 14, constantValue := 0 }, { name := "T_BYTE", type := .int, accessFlags := 25, slot := 15, constantValue := 0 }, { name := "T_SHORT", type := .int, accessFlags := 25, slot := 16, constantValue := 0 }, { name := "T_INT", type := .int, accessFlags := 25, slot := 17, constantValue := 0 }, { name := "T_LONG", type := .int, accessFlags := 25, slot := 18, constantValue := 0 }, { name := "JLA", type := (.object "jdk/internal/access/JavaLangAccess"), accessFlags := 26, slot := 19, constantValue := 0 }, { name := "SOFT_MAX_ARRAY_LENGTH", type := .int, accessFlags := 25, slot := 20, constantValue := 0 }]
  methods := #[k21m0]
  instanceTypes := #[]
  staticTypes := #[(.object "jdk/internal/misc/Unsafe"), .boolean, .int, .int, .int, .int, .int, .int, .int, .int, .int, .int, .int, .int, .int, .int, .int, .int, .int, (.object "jdk/internal/access/JavaLangAccess"), .int]
  resolved := Array.replicate 378 none
  statics := none }

def pool22 : Array CpInfo := pool [(1, u "java/lang/Cloneable"), (0, .class_ 1), (0, u "java/lang/Object"), (0, .class_ 3)] 3

/-- java/lang/Cloneable -/
def k22 : Class := { plain "java/lang/Cloneable" (some 0) with
  accessFlags := 1537
  interfaces := #[]
  cf := some (fileOf pool22 2 #[] #[] 1537 4 #[] #[])
  fields := #[]
  methods := #[]
  instanceTypes := #[]
  staticTypes := #[]
  resolved := Array.replicate 8 none
  statics := none }

/-- the primitive byte -/
def k23 : Class := { plain "byte" none with kind := .primitive 'B', accessFlags := 0x411 }
/-- [B -/
def k24 : Class := { plain "[B" (some 0) with kind := .array 23 .byte, interfaces := #[22, 2], accessFlags := 1041 }

/-- the primitive char -/
def k25 : Class := { plain "char" none with kind := .primitive 'C', accessFlags := 0x411 }
/-- [C -/
def k26 : Class := { plain "[C" (some 0) with kind := .array 25 .char, interfaces := #[22, 2], accessFlags := 1041 }

/-- the primitive int -/
def k27 : Class := { plain "int" none with kind := .primitive 'I', accessFlags := 0x411 }
/-- [I -/
def k28 : Class := { plain "[I" (some 0) with kind := .array 27 .int, interfaces := #[22, 2], accessFlags := 1041 }

def heap : Heap := #[{ cls := 7, slots := #[.long 0, .int 1, .null, .int 0, .null, .int 0, .int 0], vm := .statics 7 },
  { cls := 11, slots := #[.ref 3, .ref 4, .ref 5, .ref 6, .null], vm := .statics 11 },
  { cls := 20, slots := #[.null, .null, .null], vm := .statics 20 },
  { cls := 11, slots := #[.null, .int 0, .int 0], vm := .none },
  { cls := 11, slots := #[.null, .int 1, .int 0], vm := .none },
  { cls := 11, slots := #[.null, .int 2, .int 0], vm := .none },
  { cls := 11, slots := #[.null, .int 3, .int 0], vm := .none }]
def classes : Array Class := #[k0, k1, k2, k3, k4, k5, k6, k7, k8, k9, k10, k11, k12, k13, k14, k15, k16, k17, k18, k19, k20, k21, k22, k23, k24, k25, k26, k27, k28]
def interned : List (Array UInt16 × Addr) := []
def slotsUsed : Nat := 27
def theMethod : MethodId := ⟨1, 2⟩
def args0 : Array Value := #[.int 5, .int 5, .int 5, .int 5]
def aboutOver (below : List Frame) : State where
  vm := { classes := classes, interned := interned.toArray }
  heap := heap
  slotsUsed := slotsUsed
  threads := #[{ frames := .invoking theMethod args0 :: below }]
def below0 : List Frame := [.native { method := ⟨0, 0⟩, args := #[] }]
def about1 : State := aboutOver below0
def p0 : Program := .bare "" "" ""
def e0 : Env := launch0.env 0 0 0
theorem w_frames : about1.frames = Frame.invoking theMethod args0 :: below0 := rfl
set_option maxRecDepth 65536 in
theorem w_args : argsFit about1.vm theMethod args0 = true := by decide +kernel
set_option maxRecDepth 65536 in
theorem w_heap : heapFits about1 = true := by decide +kernel
set_option maxRecDepth 65536 in
theorem w_runnable : about1.curStatus? = some .runnable := by decide +kernel
set_option maxRecDepth 65536 in
theorem w_alone : about1.alone = true := by decide +kernel
set_option maxRecDepth 65536 in
theorem w_named : about1.methodNamed? x = some theMethod := by decide +kernel
set_option maxRecDepth 65536 in
theorem w_hears : about1.hears theMethod below0 = true := by decide +kernel
set_option maxRecDepth 65536 in
theorem w_ripe : about1.ripe theMethod args0 below0 = true := by decide +kernel
theorem w_running : about1.status = .running := rfl
set_option maxRecDepth 65536 in
theorem w_room : about1.hasRoom e0.platform room_1 = true :=
  launch0.hasRoom_least _ room_1 (by decide +kernel) (by decide +kernel) (by decide +kernel) (by decide +kernel) (by decide +kernel) (by decide +kernel)
theorem allAtoms_all (ts : List Jvm.Cond) (a : Array Jvm.Value) (st : Jvm.State) : (allAtoms ts).before a st = ts.all (fun c => c.before a st) := by
  induction ts with
  | nil => rfl
  | cons c t ih =>
    show (Jvm.Cond.and c (allAtoms t)).before a st = _
    rw [Jvm.Cond.before_and, ih, List.all_cons]
def words1 : List Jvm.Cond := Jvm.Cond.code x code maxLocals ret :: tables_1
/-- a 'code' word, met by the world's own term for the bytes: nothing is compared byte by byte -/
theorem code_word {y : MethodName} {bytes : ByteArray} {mx : Nat} {rt : Option FieldType} {a : Array Value} {s : State} {m : MethodId} {meth : Method} {c : Code} (h1 : s.methodNamed? y = some m) (h2 : s.vm.method? m = some meth) (h3 : meth.code = some c) (h4 : c.code = bytes)
    (h5 : (c.maxLocals == mx && c.exceptionTable.isEmpty && decide (c.maxStack ≤ mostOperands) && decide (meth.sig.returnType = rt) && !meth.locks && decide (parseMethodDescriptor y.desc = some meth.sig)) = true) : (Jvm.Cond.code y bytes mx rt).before a s = true := by
  simp only [Bool.and_eq_true, beq_iff_eq, Bool.not_eq_true', decide_eq_true_eq] at h5
  obtain ⟨⟨⟨⟨⟨g1, g2⟩, g3⟩, g4⟩, g5⟩, g6⟩ := h5
  simp [Cond.before, Cond.holds, Cond.value, h1, h2, h3, h4, g1, g2, g3, g4, g5, g6]
def isCode : Jvm.Cond → Bool
  | .code _ _ _ _ => true
  | _ => false
theorem all_split {L : List Jvm.Cond} {P : Jvm.Cond → Bool} (h1 : L.all (fun c => isCode c || P c) = true) (h2 : ∀ c ∈ L.filter isCode, P c = true) : L.all P = true := by
  refine List.all_eq_true.mpr fun c hc => ?_
  have h := List.all_eq_true.mp h1 c hc
  rcases Bool.eq_false_or_eq_true (isCode c) with hi | hi
  · exact h2 c (List.mem_filter.mpr ⟨hc, hi⟩)
  · simpa [hi] using h
set_option maxRecDepth 65536 in
theorem w_c0 : (Jvm.Cond.code x code maxLocals ret).before args0 about1 = true := code_word (m := ⟨1, 2⟩) (meth := k1m2) (c := k1c2) (by decide +kernel) rfl rfl rfl (by decide +kernel)
set_option maxRecDepth 65536 in
theorem w_c1 : (Jvm.Cond.code ({ cls := "java/lang/String", name := "<init>", desc := "([C)V" } : Jvm.MethodName) jdk_42_method_3_code (2 : Nat) (Option.none : Option Jvm.ClassFile.FieldType)).before args0 about1 = true := code_word (m := ⟨7, 1⟩) (meth := k7m1) (c := k7c1) (by decide +kernel) rfl rfl rfl (by decide +kernel)
set_option maxRecDepth 65536 in
theorem w_c2 : (Jvm.Cond.code ({ cls := "java/lang/String", name := "<init>", desc := "([CIILjava/lang/Void;)V" } : Jvm.MethodName) jdk_42_method_149_code (6 : Nat) (Option.none : Option Jvm.ClassFile.FieldType)).before args0 about1 = true := code_word (m := ⟨7, 7⟩) (meth := k7m7) (c := k7c7) (by decide +kernel) rfl rfl rfl (by decide +kernel)
set_option maxRecDepth 65536 in
theorem w_c3 : (Jvm.Cond.code ({ cls := "java/lang/Object", name := "<init>", desc := "()V" } : Jvm.MethodName) object_method_1_code (1 : Nat) (Option.none : Option Jvm.ClassFile.FieldType)).before args0 about1 = true := code_word (m := ⟨0, 0⟩) (meth := k0m0) (c := k0c0) (by decide +kernel) rfl rfl rfl (by decide +kernel)
set_option maxRecDepth 65536 in
theorem w_c4 : (Jvm.Cond.code ({ cls := "java/lang/StringUTF16", name := "compress", desc := "([CII)[B" } : Jvm.MethodName) jdk_52_method_16_code (6 : Nat) (Option.some (Jvm.ClassFile.FieldType.array Jvm.ClassFile.FieldType.byte))).before args0 about1 = true := code_word (m := ⟨8, 2⟩) (meth := k8m2) (c := k8c2) (by decide +kernel) rfl rfl rfl (by decide +kernel)
set_option maxRecDepth 65536 in
theorem w_c5 : (Jvm.Cond.code ({ cls := "java/lang/StringUTF16", name := "compress", desc := "([CI[BII)I" } : Jvm.MethodName) jdk_52_method_21_code (7 : Nat) (Option.some Jvm.ClassFile.FieldType.int)).before args0 about1 = true := code_word (m := ⟨8, 3⟩) (meth := k8m3) (c := k8c3) (by decide +kernel) rfl rfl rfl (by decide +kernel)
set_option maxRecDepth 65536 in
theorem w_c6 : (Jvm.Cond.code ({ cls := "java/lang/StringUTF16", name := "coderFromArrayLen", desc := "([BI)B" } : Jvm.MethodName) jdk_52_method_15_code (2 : Nat) (Option.some Jvm.ClassFile.FieldType.byte)).before args0 about1 = true := code_word (m := ⟨8, 1⟩) (meth := k8m1) (c := k8c1) (by decide +kernel) rfl rfl rfl (by decide +kernel)
set_option maxRecDepth 65536 in
theorem w_c7 : (Jvm.Cond.code ({ cls := "java/lang/String", name := "valueOf", desc := "(C)Ljava/lang/String;" } : Jvm.MethodName) jdk_42_method_139_code (1 : Nat) (Option.some (Jvm.ClassFile.FieldType.object "java/lang/String"))).before args0 about1 = true := code_word (m := ⟨7, 5⟩) (meth := k7m5) (c := k7c5) (by decide +kernel) rfl rfl rfl (by decide +kernel)
set_option maxRecDepth 65536 in
theorem w_c8 : (Jvm.Cond.code ({ cls := "java/lang/StringLatin1", name := "canEncode", desc := "(C)Z" } : Jvm.MethodName) jdk_43_method_3_code (1 : Nat) (Option.some Jvm.ClassFile.FieldType.boolean)).before args0 about1 = true := code_word (m := ⟨9, 1⟩) (meth := k9m1) (c := k9c1) (by decide +kernel) rfl rfl rfl (by decide +kernel)
set_option maxRecDepth 65536 in
theorem w_c9 : (Jvm.Cond.code ({ cls := "java/lang/StringLatin1", name := "toBytes", desc := "(C)[B" } : Jvm.MethodName) jdk_43_method_46_code (1 : Nat) (Option.some (Jvm.ClassFile.FieldType.array Jvm.ClassFile.FieldType.byte))).before args0 about1 = true := code_word (m := ⟨9, 3⟩) (meth := k9m3) (c := k9c3) (by decide +kernel) rfl rfl rfl (by decide +kernel)
set_option maxRecDepth 65536 in
theorem w_c10 : (Jvm.Cond.code ({ cls := "java/lang/String", name := "<init>", desc := "([BB)V" } : Jvm.MethodName) jdk_42_method_151_code (3 : Nat) (Option.none : Option Jvm.ClassFile.FieldType)).before args0 about1 = true := code_word (m := ⟨7, 9⟩) (meth := k7m9) (c := k7c9) (by decide +kernel) rfl rfl rfl (by decide +kernel)
set_option maxRecDepth 65536 in
theorem w_c11 : (Jvm.Cond.code ({ cls := "com/example/estim365/estim365/cli/OptionIsFlagPinLaw", name := "occurrence", desc := "(I)Lcom/example/estim365/estim365/cli/Option$Occurrence;" } : Jvm.MethodName) method_2_code (1 : Nat) (Option.some (Jvm.ClassFile.FieldType.object "com/example/estim365/estim365/cli/Option$Occurrence"))).before args0 about1 = true := code_word (m := ⟨1, 1⟩) (meth := k1m1) (c := k1c1) (by decide +kernel) rfl rfl rfl (by decide +kernel)
set_option maxRecDepth 65536 in
theorem w_c12 : (Jvm.Cond.code ({ cls := "com/example/estim365/estim365/cli/Option", name := "<init>", desc := "(Ljava/lang/String;Ljava/lang/String;Lcom/example/estim365/estim365/cli/Option$Occurrence;Ljava/lang/String;)V" } : Jvm.MethodName) prog_5_method_1_code (5 : Nat) (Option.none : Option Jvm.ClassFile.FieldType)).before args0 about1 = true := code_word (m := ⟨13, 0⟩) (meth := k13m0) (c := k13c0) (by decide +kernel) rfl rfl rfl (by decide +kernel)
set_option maxRecDepth 65536 in
theorem w_c13 : (Jvm.Cond.code ({ cls := "java/lang/Record", name := "<init>", desc := "()V" } : Jvm.MethodName) jdk_30_method_1_code (1 : Nat) (Option.none : Option Jvm.ClassFile.FieldType)).before args0 about1 = true := code_word (m := ⟨12, 0⟩) (meth := k12m0) (c := k12c0) (by decide +kernel) rfl rfl rfl (by decide +kernel)
set_option maxRecDepth 65536 in
theorem w_c14 : (Jvm.Cond.code ({ cls := "com/example/estim365/estim365/cli/Option", name := "isFlag", desc := "()Z" } : Jvm.MethodName) prog_5_method_7_code (1 : Nat) (Option.some Jvm.ClassFile.FieldType.boolean)).before args0 about1 = true := code_word (m := ⟨13, 2⟩) (meth := k13m2) (c := k13c2) (by decide +kernel) rfl rfl rfl (by decide +kernel)
set_option maxRecDepth 65536 in
theorem w_c15 : (Jvm.Cond.code ({ cls := "com/example/estim365/estim365/cli/Option", name := "given", desc := "()Ljava/lang/String;" } : Jvm.MethodName) prog_5_method_8_code (1 : Nat) (Option.some (Jvm.ClassFile.FieldType.object "java/lang/String"))).before args0 about1 = true := code_word (m := ⟨13, 3⟩) (meth := k13m3) (c := k13c3) (by decide +kernel) rfl rfl rfl (by decide +kernel)
set_option maxRecDepth 65536 in
theorem w_c16 : (Jvm.Cond.code ({ cls := "java/lang/StringBuilder", name := "<init>", desc := "()V" } : Jvm.MethodName) jdk_67_method_1_code (1 : Nat) (Option.none : Option Jvm.ClassFile.FieldType)).before args0 about1 = true := code_word (m := ⟨16, 0⟩) (meth := k16m0) (c := k16c0) (by decide +kernel) rfl rfl rfl (by decide +kernel)
set_option maxRecDepth 65536 in
theorem w_c17 : (Jvm.Cond.code ({ cls := "java/lang/AbstractStringBuilder", name := "<init>", desc := "(I)V" } : Jvm.MethodName) jdk_68_method_2_code (2 : Nat) (Option.none : Option Jvm.ClassFile.FieldType)).before args0 about1 = true := code_word (m := ⟨15, 1⟩) (meth := k15m1) (c := k15c1) (by decide +kernel) rfl rfl rfl (by decide +kernel)
set_option maxRecDepth 65536 in
theorem w_c18 : (Jvm.Cond.code ({ cls := "java/lang/StringBuilder", name := "append", desc := "(Ljava/lang/String;)Ljava/lang/StringBuilder;" } : Jvm.MethodName) jdk_67_method_7_code (2 : Nat) (Option.some (Jvm.ClassFile.FieldType.object "java/lang/StringBuilder"))).before args0 about1 = true := code_word (m := ⟨16, 1⟩) (meth := k16m1) (c := k16c1) (by decide +kernel) rfl rfl rfl (by decide +kernel)
set_option maxRecDepth 65536 in
theorem w_c19 : (Jvm.Cond.code ({ cls := "java/lang/AbstractStringBuilder", name := "append", desc := "(Ljava/lang/String;)Ljava/lang/AbstractStringBuilder;" } : Jvm.MethodName) jdk_68_method_22_code (3 : Nat) (Option.some (Jvm.ClassFile.FieldType.object "java/lang/AbstractStringBuilder"))).before args0 about1 = true := code_word (m := ⟨15, 4⟩) (meth := k15m4) (c := k15c4) (by decide +kernel) rfl rfl rfl (by decide +kernel)
set_option maxRecDepth 65536 in
theorem w_c20 : (Jvm.Cond.code ({ cls := "java/lang/String", name := "length", desc := "()I" } : Jvm.MethodName) jdk_42_method_54_code (1 : Nat) (Option.some Jvm.ClassFile.FieldType.int)).before args0 about1 = true := code_word (m := ⟨7, 3⟩) (meth := k7m3) (c := k7c3) (by decide +kernel) rfl rfl rfl (by decide +kernel)
set_option maxRecDepth 65536 in
theorem w_c21 : (Jvm.Cond.code ({ cls := "java/lang/String", name := "coder", desc := "()B" } : Jvm.MethodName) jdk_42_method_152_code (1 : Nat) (Option.some Jvm.ClassFile.FieldType.byte)).before args0 about1 = true := code_word (m := ⟨7, 10⟩) (meth := k7m10) (c := k7c10) (by decide +kernel) rfl rfl rfl (by decide +kernel)
set_option maxRecDepth 65536 in
theorem w_c22 : (Jvm.Cond.code ({ cls := "java/lang/AbstractStringBuilder", name := "ensureCapacityInternal", desc := "(I)V" } : Jvm.MethodName) jdk_68_method_9_code (3 : Nat) (Option.none : Option Jvm.ClassFile.FieldType)).before args0 about1 = true := code_word (m := ⟨15, 3⟩) (meth := k15m3) (c := k15c3) (by decide +kernel) rfl rfl rfl (by decide +kernel)
set_option maxRecDepth 65536 in
theorem w_c23 : (Jvm.Cond.code ({ cls := "java/lang/AbstractStringBuilder", name := "putStringAt", desc := "(ILjava/lang/String;)V" } : Jvm.MethodName) jdk_68_method_73_code (3 : Nat) (Option.none : Option Jvm.ClassFile.FieldType)).before args0 about1 = true := code_word (m := ⟨15, 8⟩) (meth := k15m8) (c := k15c8) (by decide +kernel) rfl rfl rfl (by decide +kernel)
set_option maxRecDepth 65536 in
theorem w_c24 : (Jvm.Cond.code ({ cls := "java/lang/AbstractStringBuilder", name := "inflateIfNeededFor", desc := "(Ljava/lang/String;)V" } : Jvm.MethodName) jdk_68_method_71_code (2 : Nat) (Option.none : Option Jvm.ClassFile.FieldType)).before args0 about1 = true := code_word (m := ⟨15, 7⟩) (meth := k15m7) (c := k15c7) (by decide +kernel) rfl rfl rfl (by decide +kernel)
set_option maxRecDepth 65536 in
theorem w_c25 : (Jvm.Cond.code ({ cls := "java/lang/String", name := "getBytes", desc := "([BIB)V" } : Jvm.MethodName) jdk_42_method_147_code (4 : Nat) (Option.none : Option Jvm.ClassFile.FieldType)).before args0 about1 = true := code_word (m := ⟨7, 6⟩) (meth := k7m6) (c := k7c6) (by decide +kernel) rfl rfl rfl (by decide +kernel)
set_option maxRecDepth 65536 in
theorem w_c26 : (Jvm.Cond.code ({ cls := "java/lang/StringBuilder", name := "toString", desc := "()Ljava/lang/String;" } : Jvm.MethodName) jdk_67_method_42_code (1 : Nat) (Option.some (Jvm.ClassFile.FieldType.object "java/lang/String"))).before args0 about1 = true := code_word (m := ⟨16, 2⟩) (meth := k16m2) (c := k16c2) (by decide +kernel) rfl rfl rfl (by decide +kernel)
set_option maxRecDepth 65536 in
theorem w_c27 : (Jvm.Cond.code ({ cls := "java/lang/String", name := "<init>", desc := "(Ljava/lang/StringBuilder;)V" } : Jvm.MethodName) jdk_42_method_53_code (2 : Nat) (Option.none : Option Jvm.ClassFile.FieldType)).before args0 about1 = true := code_word (m := ⟨7, 2⟩) (meth := k7m2) (c := k7c2) (by decide +kernel) rfl rfl rfl (by decide +kernel)
set_option maxRecDepth 65536 in
theorem w_c28 : (Jvm.Cond.code ({ cls := "java/lang/String", name := "<init>", desc := "(Ljava/lang/AbstractStringBuilder;Ljava/lang/Void;)V" } : Jvm.MethodName) jdk_42_method_150_code (5 : Nat) (Option.none : Option Jvm.ClassFile.FieldType)).before args0 about1 = true := code_word (m := ⟨7, 8⟩) (meth := k7m8) (c := k7c8) (by decide +kernel) rfl rfl rfl (by decide +kernel)
set_option maxRecDepth 65536 in
theorem w_c29 : (Jvm.Cond.code ({ cls := "java/lang/AbstractStringBuilder", name := "getValue", desc := "()[B" } : Jvm.MethodName) jdk_68_method_64_code (1 : Nat) (Option.some (Jvm.ClassFile.FieldType.array Jvm.ClassFile.FieldType.byte))).before args0 about1 = true := code_word (m := ⟨15, 5⟩) (meth := k15m5) (c := k15c5) (by decide +kernel) rfl rfl rfl (by decide +kernel)
set_option maxRecDepth 65536 in
theorem w_c30 : (Jvm.Cond.code ({ cls := "java/lang/StringBuilder", name := "length", desc := "()I" } : Jvm.MethodName) jdk_67_method_93_code (1 : Nat) (Option.some Jvm.ClassFile.FieldType.int)).before args0 about1 = true := code_word (m := ⟨16, 3⟩) (meth := k16m3) (c := k16c3) (by decide +kernel) rfl rfl rfl (by decide +kernel)
set_option maxRecDepth 65536 in
theorem w_c31 : (Jvm.Cond.code ({ cls := "java/lang/AbstractStringBuilder", name := "length", desc := "()I" } : Jvm.MethodName) jdk_68_method_6_code (1 : Nat) (Option.some Jvm.ClassFile.FieldType.int)).before args0 about1 = true := code_word (m := ⟨15, 2⟩) (meth := k15m2) (c := k15c2) (by decide +kernel) rfl rfl rfl (by decide +kernel)
set_option maxRecDepth 65536 in
theorem w_c32 : (Jvm.Cond.code ({ cls := "java/lang/AbstractStringBuilder", name := "isLatin1", desc := "()Z" } : Jvm.MethodName) jdk_68_method_68_code (1 : Nat) (Option.some Jvm.ClassFile.FieldType.boolean)).before args0 about1 = true := code_word (m := ⟨15, 6⟩) (meth := k15m6) (c := k15c6) (by decide +kernel) rfl rfl rfl (by decide +kernel)
set_option maxRecDepth 65536 in
theorem w_c33 : (Jvm.Cond.code ({ cls := "java/util/Arrays", name := "copyOfRange", desc := "([BII)[B" } : Jvm.MethodName) jdk_65_method_132_code (3 : Nat) (Option.some (Jvm.ClassFile.FieldType.array Jvm.ClassFile.FieldType.byte))).before args0 about1 = true := code_word (m := ⟨18, 2⟩) (meth := k18m2) (c := k18c2) (by decide +kernel) rfl rfl rfl (by decide +kernel)
set_option maxRecDepth 65536 in
theorem w_c34 : (Jvm.Cond.code ({ cls := "java/util/Arrays", name := "copyOfRangeByte", desc := "([BII)[B" } : Jvm.MethodName) jdk_65_method_133_code (5 : Nat) (Option.some (Jvm.ClassFile.FieldType.array Jvm.ClassFile.FieldType.byte))).before args0 about1 = true := code_word (m := ⟨18, 3⟩) (meth := k18m3) (c := k18c3) (by decide +kernel) rfl rfl rfl (by decide +kernel)
set_option maxRecDepth 65536 in
theorem w_c35 : (Jvm.Cond.code ({ cls := "java/util/Arrays", name := "checkLength", desc := "(II)V" } : Jvm.MethodName) jdk_65_method_131_code (2 : Nat) (Option.none : Option Jvm.ClassFile.FieldType)).before args0 about1 = true := code_word (m := ⟨18, 1⟩) (meth := k18m1) (c := k18c1) (by decide +kernel) rfl rfl rfl (by decide +kernel)
set_option maxRecDepth 65536 in
theorem w_c36 : (Jvm.Cond.code ({ cls := "java/lang/Math", name := "min", desc := "(II)I" } : Jvm.MethodName) jdk_29_method_69_code (2 : Nat) (Option.some Jvm.ClassFile.FieldType.int)).before args0 about1 = true := code_word (m := ⟨19, 1⟩) (meth := k19m1) (c := k19c1) (by decide +kernel) rfl rfl rfl (by decide +kernel)
set_option maxRecDepth 65536 in
theorem w_c37 : (Jvm.Cond.code ({ cls := "java/lang/String", name := "equals", desc := "(Ljava/lang/Object;)Z" } : Jvm.MethodName) jdk_42_method_66_code (3 : Nat) (Option.some Jvm.ClassFile.FieldType.boolean)).before args0 about1 = true := code_word (m := ⟨7, 4⟩) (meth := k7m4) (c := k7c4) (by decide +kernel) rfl rfl rfl (by decide +kernel)
set_option maxRecDepth 65536 in
theorem w_c38 : (Jvm.Cond.code ({ cls := "java/lang/StringLatin1", name := "equals", desc := "([B[B)Z" } : Jvm.MethodName) jdk_43_method_13_code (3 : Nat) (Option.some Jvm.ClassFile.FieldType.boolean)).before args0 about1 = true := code_word (m := ⟨9, 2⟩) (meth := k9m2) (c := k9c2) (by decide +kernel) rfl rfl rfl (by decide +kernel)
set_option maxRecDepth 65536 in
theorem w_c39 : (Jvm.Cond.code ({ cls := "com/example/estim365/estim365/cli/Option", name := "flag", desc := "(Ljava/lang/String;Ljava/lang/String;)Lcom/example/estim365/estim365/cli/Option;" } : Jvm.MethodName) prog_5_method_6_code (2 : Nat) (Option.some (Jvm.ClassFile.FieldType.object "com/example/estim365/estim365/cli/Option"))).before args0 about1 = true := code_word (m := ⟨13, 1⟩) (meth := k13m1) (c := k13c1) (by decide +kernel) rfl rfl rfl (by decide +kernel)
def codes1 : List Jvm.Cond := [Jvm.Cond.code x code maxLocals ret, Jvm.Cond.code ({ cls := "java/lang/String", name := "<init>", desc := "([C)V" } : Jvm.MethodName) jdk_42_method_3_code (2 : Nat) (Option.none : Option Jvm.ClassFile.FieldType), Jvm.Cond.code ({ cls := "java/lang/String", name := "<init>", desc := "([CIILjava/lang/Void;)V" } : Jvm.MethodName) jdk_42_method_149_code (6 : Nat) (Option.none : Option Jvm.ClassFile.FieldType), Jvm.Cond.code ({ cls := "java/lang/Object", name := "<init>", desc := "()V" } : Jvm.MethodName) object_method_1_code (1 : Nat) (Option.none : Option Jvm.ClassFile.FieldType), Jvm.Cond.code ({ cls := "java/lang/StringUTF16", name := "compress", desc := "([CII)[B" } : Jvm.MethodName) jdk_52_method_16_code (6 : Nat) (Option.some (Jvm.ClassFile.FieldType.array Jvm.ClassFile.FieldType.byte)), Jvm.Cond.code ({ cls := "java/lang/StringUTF16", name := "compress", desc := "([CI[BII)I" } : Jvm.MethodName) jdk_52_method_21_code (7 : Nat) (Option.some Jvm.ClassFile.FieldType.int), Jvm.Cond.code ({ cls := "java/lang/StringUTF16", name := "coderFromArrayLen", desc := "([BI)B" } : Jvm.MethodName) jdk_52_method_15_code (2 : Nat) (Option.some Jvm.ClassFile.FieldType.byte), Jvm.Cond.code ({ cls := "java/lang/String", name := "valueOf", desc := "(C)Ljava/lang/String;" } : Jvm.MethodName) jdk_42_method_139_code (1 : Nat) (Option.some (Jvm.ClassFile.FieldType.object "java/lang/String")), Jvm.Cond.code ({ cls := "java/lang/StringLatin1", name := "canEncode", desc := "(C)Z" } : Jvm.MethodName) jdk_43_method_3_code (1 : Nat) (Option.some Jvm.ClassFile.FieldType.boolean), Jvm.Cond.code ({ cls := "java/lang/StringLatin1", name := "toBytes", desc := "(C)[B" } : Jvm.MethodName) jdk_43_method_46_code (1 : Nat) (Option.some (Jvm.ClassFile.FieldType.array Jvm.ClassFile.FieldType.byte)), Jvm.Cond.code ({ cls := "java/lang/String", name := "<init>", desc := "([BB)V" } : Jvm.MethodName) jdk_42_method_151_code (3 : Nat) (Option.none : Option Jvm.ClassFile.FieldType), Jvm.Cond.code ({ cls := "com/example/estim365/estim365/cli/OptionIsFlagPinLaw", name := "occurrence", desc := "(I)Lcom/example/estim365/estim365/cli/Option$Occurrence;" } : Jvm.MethodName) method_2_code (1 : Nat) (Option.some (Jvm.ClassFile.FieldType.object "com/example/estim365/estim365/cli/Option$Occurrence")), Jvm.Cond.code ({ cls := "com/example/estim365/estim365/cli/Option", name := "<init>", desc := "(Ljava/lang/String;Ljava/lang/String;Lcom/example/estim365/estim365/cli/Option$Occurrence;Ljava/lang/String;)V" } : Jvm.MethodName) prog_5_method_1_code (5 : Nat) (Option.none : Option Jvm.ClassFile.FieldType), Jvm.Cond.code ({ cls := "java/lang/Record", name := "<init>", desc := "()V" } : Jvm.MethodName) jdk_30_method_1_code (1 : Nat) (Option.none : Option Jvm.ClassFile.FieldType), Jvm.Cond.code ({ cls := "com/example/estim365/estim365/cli/Option", name := "isFlag", desc := "()Z" } : Jvm.MethodName) prog_5_method_7_code (1 : Nat) (Option.some Jvm.ClassFile.FieldType.boolean), Jvm.Cond.code ({ cls := "com/example/estim365/estim365/cli/Option", name := "given", desc := "()Ljava/lang/String;" } : Jvm.MethodName) prog_5_method_8_code (1 : Nat) (Option.some (Jvm.ClassFile.FieldType.object "java/lang/String")), Jvm.Cond.code ({ cls := "java/lang/StringBuilder", name := "<init>", desc := "()V" } : Jvm.MethodName) jdk_67_method_1_code (1 : Nat) (Option.none : Option Jvm.ClassFile.FieldType), Jvm.Cond.code ({ cls := "java/lang/AbstractStringBuilder", name := "<init>", desc := "(I)V" } : Jvm.MethodName) jdk_68_method_2_code (2 : Nat) (Option.none : Option Jvm.ClassFile.FieldType), Jvm.Cond.code ({ cls := "java/lang/StringBuilder", name := "append", desc := "(Ljava/lang/String;)Ljava/lang/StringBuilder;" } : Jvm.MethodName) jdk_67_method_7_code (2 : Nat) (Option.some (Jvm.ClassFile.FieldType.object "java/lang/StringBuilder")), Jvm.Cond.code ({ cls := "java/lang/AbstractStringBuilder", name := "append", desc := "(Ljava/lang/String;)Ljava/lang/AbstractStringBuilder;" } : Jvm.MethodName) jdk_68_method_22_code (3 : Nat) (Option.some (Jvm.ClassFile.FieldType.object "java/lang/AbstractStringBuilder")), Jvm.Cond.code ({ cls := "java/lang/String", name := "length", desc := "()I" } : Jvm.MethodName) jdk_42_method_54_code (1 : Nat) (Option.some Jvm.ClassFile.FieldType.int), Jvm.Cond.code ({ cls := "java/lang/String", name := "coder", desc := "()B" } : Jvm.MethodName) jdk_42_method_152_code (1 : Nat) (Option.some Jvm.ClassFile.FieldType.byte), Jvm.Cond.code ({ cls := "java/lang/AbstractStringBuilder", name := "ensureCapacityInternal", desc := "(I)V" } : Jvm.MethodName) jdk_68_method_9_code (3 : Nat) (Option.none : Option Jvm.ClassFile.FieldType), Jvm.Cond.code ({ cls := "java/lang/AbstractStringBuilder", name := "putStringAt", desc := "(ILjava/lang/String;)V" } : Jvm.MethodName) jdk_68_method_73_code (3 : Nat) (Option.none : Option Jvm.ClassFile.FieldType), Jvm.Cond.code ({ cls := "java/lang/AbstractStringBuilder", name := "inflateIfNeededFor", desc := "(Ljava/lang/String;)V" } : Jvm.MethodName) jdk_68_method_71_code (2 : Nat) (Option.none : Option Jvm.ClassFile.FieldType), Jvm.Cond.code ({ cls := "java/lang/String", name := "getBytes", desc := "([BIB)V" } : Jvm.MethodName) jdk_42_method_147_code (4 : Nat) (Option.none : Option Jvm.ClassFile.FieldType), Jvm.Cond.code ({ cls := "java/lang/StringBuilder", name := "toString", desc := "()Ljava/lang/String;" } : Jvm.MethodName) jdk_67_method_42_code (1 : Nat) (Option.some (Jvm.ClassFile.FieldType.object "java/lang/String")), Jvm.Cond.code ({ cls := "java/lang/String", name := "<init>", desc := "(Ljava/lang/StringBuilder;)V" } : Jvm.MethodName) jdk_42_method_53_code (2 : Nat) (Option.none : Option Jvm.ClassFile.FieldType), Jvm.Cond.code ({ cls := "java/lang/String", name := "<init>", desc := "(Ljava/lang/AbstractStringBuilder;Ljava/lang/Void;)V" } : Jvm.MethodName) jdk_42_method_150_code (5 : Nat) (Option.none : Option Jvm.ClassFile.FieldType), Jvm.Cond.code ({ cls := "java/lang/AbstractStringBuilder", name := "getValue", desc := "()[B" } : Jvm.MethodName) jdk_68_method_64_code (1 : Nat) (Option.some (Jvm.ClassFile.FieldType.array Jvm.ClassFile.FieldType.byte)), Jvm.Cond.code ({ cls := "java/lang/StringBuilder", name := "length", desc := "()I" } : Jvm.MethodName) jdk_67_method_93_code (1 : Nat) (Option.some Jvm.ClassFile.FieldType.int), Jvm.Cond.code ({ cls := "java/lang/AbstractStringBuilder", name := "length", desc := "()I" } : Jvm.MethodName) jdk_68_method_6_code (1 : Nat) (Option.some Jvm.ClassFile.FieldType.int), Jvm.Cond.code ({ cls := "java/lang/AbstractStringBuilder", name := "isLatin1", desc := "()Z" } : Jvm.MethodName) jdk_68_method_68_code (1 : Nat) (Option.some Jvm.ClassFile.FieldType.boolean), Jvm.Cond.code ({ cls := "java/util/Arrays", name := "copyOfRange", desc := "([BII)[B" } : Jvm.MethodName) jdk_65_method_132_code (3 : Nat) (Option.some (Jvm.ClassFile.FieldType.array Jvm.ClassFile.FieldType.byte)), Jvm.Cond.code ({ cls := "java/util/Arrays", name := "copyOfRangeByte", desc := "([BII)[B" } : Jvm.MethodName) jdk_65_method_133_code (5 : Nat) (Option.some (Jvm.ClassFile.FieldType.array Jvm.ClassFile.FieldType.byte)), Jvm.Cond.code ({ cls := "java/util/Arrays", name := "checkLength", desc := "(II)V" } : Jvm.MethodName) jdk_65_method_131_code (2 : Nat) (Option.none : Option Jvm.ClassFile.FieldType), Jvm.Cond.code ({ cls := "java/lang/Math", name := "min", desc := "(II)I" } : Jvm.MethodName) jdk_29_method_69_code (2 : Nat) (Option.some Jvm.ClassFile.FieldType.int), Jvm.Cond.code ({ cls := "java/lang/String", name := "equals", desc := "(Ljava/lang/Object;)Z" } : Jvm.MethodName) jdk_42_method_66_code (3 : Nat) (Option.some Jvm.ClassFile.FieldType.boolean), Jvm.Cond.code ({ cls := "java/lang/StringLatin1", name := "equals", desc := "([B[B)Z" } : Jvm.MethodName) jdk_43_method_13_code (3 : Nat) (Option.some Jvm.ClassFile.FieldType.boolean), Jvm.Cond.code ({ cls := "com/example/estim365/estim365/cli/Option", name := "flag", desc := "(Ljava/lang/String;Ljava/lang/String;)Lcom/example/estim365/estim365/cli/Option;" } : Jvm.MethodName) prog_5_method_6_code (2 : Nat) (Option.some (Jvm.ClassFile.FieldType.object "com/example/estim365/estim365/cli/Option"))]
set_option maxRecDepth 65536 in
theorem codes_eq : words1.filter isCode = codes1 := rfl
theorem w_codes : ∀ c ∈ words1.filter isCode, c.before args0 about1 = true := by
  rw [codes_eq]
  intro c hc
  simp only [codes1, List.mem_cons, List.not_mem_nil, or_false] at hc
  rcases hc with rfl | rfl | rfl | rfl | rfl | rfl | rfl | rfl | rfl | rfl | rfl | rfl | rfl | rfl | rfl | rfl | rfl | rfl | rfl | rfl | rfl | rfl | rfl | rfl | rfl | rfl | rfl | rfl | rfl | rfl | rfl | rfl | rfl | rfl | rfl | rfl | rfl | rfl | rfl | rfl
  · exact w_c0
  · exact w_c1
  · exact w_c2
  · exact w_c3
  · exact w_c4
  · exact w_c5
  · exact w_c6
  · exact w_c7
  · exact w_c8
  · exact w_c9
  · exact w_c10
  · exact w_c11
  · exact w_c12
  · exact w_c13
  · exact w_c14
  · exact w_c15
  · exact w_c16
  · exact w_c17
  · exact w_c18
  · exact w_c19
  · exact w_c20
  · exact w_c21
  · exact w_c22
  · exact w_c23
  · exact w_c24
  · exact w_c25
  · exact w_c26
  · exact w_c27
  · exact w_c28
  · exact w_c29
  · exact w_c30
  · exact w_c31
  · exact w_c32
  · exact w_c33
  · exact w_c34
  · exact w_c35
  · exact w_c36
  · exact w_c37
  · exact w_c38
  · exact w_c39
set_option maxRecDepth 65536 in
theorem w_t1 : (words1.take 24).all (fun c => isCode c || c.before args0 about1) = true := by decide +kernel
set_option maxRecDepth 65536 in
theorem w_t2 : ((words1.drop 24).take 24).all (fun c => isCode c || c.before args0 about1) = true := by decide +kernel
set_option maxRecDepth 65536 in
theorem w_t3 : (((words1.drop 24).drop 24).take 24).all (fun c => isCode c || c.before args0 about1) = true := by decide +kernel
set_option maxRecDepth 65536 in
theorem w_t4 : ((((words1.drop 24).drop 24).drop 24).take 24).all (fun c => isCode c || c.before args0 about1) = true := by decide +kernel
set_option maxRecDepth 65536 in
theorem w_t5 : (((((words1.drop 24).drop 24).drop 24).drop 24).take 24).all (fun c => isCode c || c.before args0 about1) = true := by decide +kernel
set_option maxRecDepth 65536 in
theorem w_t6 : ((((((words1.drop 24).drop 24).drop 24).drop 24).drop 24).take 24).all (fun c => isCode c || c.before args0 about1) = true := by decide +kernel
set_option maxRecDepth 65536 in
theorem w_t7 : (((((((words1.drop 24).drop 24).drop 24).drop 24).drop 24).drop 24).take 24).all (fun c => isCode c || c.before args0 about1) = true := by decide +kernel
set_option maxRecDepth 65536 in
theorem w_t8 : ((((((((words1.drop 24).drop 24).drop 24).drop 24).drop 24).drop 24).drop 24).take 24).all (fun c => isCode c || c.before args0 about1) = true := by decide +kernel
set_option maxRecDepth 65536 in
theorem w_t9 : (((((((((words1.drop 24).drop 24).drop 24).drop 24).drop 24).drop 24).drop 24).drop 24).take 24).all (fun c => isCode c || c.before args0 about1) = true := by decide +kernel
set_option maxRecDepth 65536 in
theorem w_t10 : (((((((((words1.drop 24).drop 24).drop 24).drop 24).drop 24).drop 24).drop 24).drop 24).drop 24).all (fun c => isCode c || c.before args0 about1) = true := by decide +kernel
theorem w_tables : (allAtoms (Jvm.Cond.code x code maxLocals ret :: tables_1)).before args0 about1 = true := by
  rw [allAtoms_all]
  show words1.all (fun c => c.before args0 about1) = true
  refine all_split ?_ w_codes
  rw [← List.take_append_drop 24 words1, List.all_append, w_t1, ← List.take_append_drop 24 (words1.drop 24), List.all_append, w_t2, ← List.take_append_drop 24 ((words1.drop 24).drop 24), List.all_append, w_t3, ← List.take_append_drop 24 (((words1.drop 24).drop 24).drop 24), List.all_append, w_t4, ← List.take_append_drop 24 ((((words1.drop 24).drop 24).drop 24).drop 24), List.all_append, w_t5, ← List.take_append_drop 24 (((((words1.drop 24).drop 24).drop 24).drop 24).drop 24), List.all_append, w_t6, ← List.take_append_drop 24 ((((((words1.drop 24).drop 24).drop 24).drop 24).drop 24).drop 24), List.all_append, w_t7, ← List.take_append_drop 24 (((((((words1.drop 24).drop 24).drop 24).drop 24).drop 24).drop 24).drop 24), List.all_append, w_t8, ← List.take_append_drop 24 ((((((((words1.drop 24).drop 24).drop 24).drop 24).drop 24).drop 24).drop 24).drop 24), List.all_append, w_t9, w_t10]
  rfl
set_option maxRecDepth 65536 in
theorem w_rest : rest_1_c.before args0 about1 = true := by decide +kernel
set_option maxRecDepth 65536 in
theorem w_case : (Jvm.Cond.and given_1 narrow_1).before args0 about1 = true := by decide +kernel
set_option maxRecDepth 65536 in
theorem w_consts : constsHeld consts_1 about1 := Jvm.Lit.constsHeldB_iff.mp (by decide +kernel)
theorem w_applies : (headSpec (Jvm.Cond.code x code maxLocals ret :: tables_1) room_1).applies x e0.platform about1 = true :=
  (Spec.applies_iff w_frames).mpr ⟨w_running, w_runnable, w_alone, w_named, w_hears, w_ripe, w_room, w_tables⟩
theorem atStart : AtStart classFile x code maxLocals ret World_1 tables_1 room_1 Calls_1 rest_1 Pre_1 launch0 p0 e0 about1 theMethod args0 below0 :=
  ⟨lists_1, trivial, launch0.admits_env _ _ _, launch0.least_env, fairChoices_fair.cas, fairChoices_fair.clock, w_frames, w_args, w_heap, w_applies, ⟨w_consts, trivial⟩, w_rest, w_case⟩
end start1
theorem witness_1 : WitnessClaimed_1 := ⟨start1.p0, start1.e0, start1.about1, start1.theMethod, start1.args0, start1.below0, start1.atStart⟩
end Jvm.Pilot.@@N@@
