import JvmDerived
import JvmDerived.Pilot.@@N@@Statement
import JvmDerived.Pilot.@@N@@Code
set_option linter.unusedVariables false
set_option linter.unusedSimpArgs false
namespace Jvm.Pilot.@@N@@
open Jvm Jvm.ClassFile Sem Op Lib Jvm.Free Jvm.Stand Jvm.LawKit Jvm.RoadKit Bundle Jvm.Pilot.@@N@@.Jvm.D
section Layer
variable {p : Program} {l : Launch} {e : Env} {R : Room} {s : State} {m : MethodId} {args : Array Value} {below : List Frame} {meth : Method} {c : Code} {T : State} {locs : List Loc} {cells slots : Nat} {Q : Option Value → Heap → List Loc → Prop} {K N : Nat} {pc n : Nat} {Ls : Array Slot} {rest st : List Value} {Z : State} {a0 : Array Value} {h : Heap}
/-- from st on the invocation ends as Q says -/
def Goes (p : Program) (e : Env) (below : List Frame) (s : State) (Q : Option Value → Heap → List Loc → Prop) (K N : Nat) (st : State) : Prop :=
  ∃ s₂ o, Steps p.tables e below st s₂ ∧ s₂.status = .running ∧ Ended s₂ below o ∧ ∃ v L, o = .returned v ∧ Q v s₂.heap L ∧ FrameEnd s o s₂ L K N
theorem Goes.via {st st' : State} (g : Goes p e below s Q K N st') (h : ∀ t, Steps p.tables e below st' t → Steps p.tables e below st t) : Goes p e below s Q K N st := by
  obtain ⟨s₂, o, h1, r⟩ := g
  exact ⟨s₂, o, h _ h1, r⟩
/-- a body's contract -/
def Does (l : Launch) (Z : State) (y : MethodName) (bytes : ByteArray) (maxL : Nat) (ret : Option FieldType) (ws : List Jvm.Cond) (rm : Room) (as : Array Value) (h : Heap) (Q : Option Value → Heap → List Loc → Prop) : Prop :=
  MetFree l y (head1 (Jvm.Cond.code y bytes maxL ret :: ws) rm) (fun a U => a = as ∧ Z.Warmed39 U.vm ∧ U.heap = h) (fun _ _ _ _ _ => True) (fun _ U o U' => ∃ v L, o = .returned v ∧ Q v U'.heap L ∧ FrameEnd U o U' L rm.cells rm.slots)
theorem Does.of {y : MethodName} {bytes : ByteArray} {maxL : Nat} {ret : Option FieldType} {ws : List Jvm.Cond} {rm : Room} {as : Array Value} (hpl : plainFor y = true)
    (body : ∀ (p : Program) (e : Env) (s : State) (m : MethodId) (below : List Frame) (meth : Method) (c : Code) (T : State), p.tables.exec = Jvm.exec → c.code = bytes → c.maxLocals = maxL → s.vm.findClass y.cls = some m.cls → meth.name = y.name → meth.sig.returnType = ret → meth.locks = false → Z.Warmed39 s.vm → Stand p l e rm s m as below meth c T [] 0 0 → T.heap = h → Goes p e below s Q rm.cells rm.slots (T.setTop (entryFrame m as maxL))) : Does l Z y bytes maxL ret ws rm as h Q := by
  refine MetFree.of_bodySF hpl hisR ?_
  intro p e s m args below meth c s₁ Bd hml0 hP hK
  obtain ⟨rfl, hZ, hh⟩ := hP
  have X0 : Stand p l e rm s m args below meth c s₁ [] 0 0 := Stand.of_body Bd
  exact body p e s m below meth c s₁ Bd.exec Bd.bytes hml0 (findClass_of_methodNamed Bd.named) (name_of_methodNamed Bd.named Bd.method).1 Bd.returns Bd.notSynchronized hZ X0 (by rw [← hh, Bd.state]; rfl)
theorem o_mono {c' s' : Nat} (X : Stand p l e R s m args below meth c T locs cells slots) (h1 : cells ≤ c') (h2 : slots ≤ s') : Stand p l e R s m args below meth c T locs c' s' := { X with same := X.same.mono h1 h2 }
theorem o_nem {y z : Addr} {L : List Addr} (q : y ∉ L) (k : z ∈ L) : y ≠ z := fun e => q (e ▸ k)
theorem o_entry {as : Array Value} {maxL : Nat} (q : entryFrame m as maxL = mkF m 0 Ls []) (g : Goes p e below s Q K N (T.setTop (mkF m 0 Ls []))) : Goes p e below s Q K N (T.setTop (entryFrame m as maxL)) := q ▸ g
theorem o_iload (X : Stand p l e R s m args below meth c T locs cells slots) (hx : p.tables.exec = Jvm.exec) {j : Nat} {v : Int32} (hd : decode c.code pc = .ok (.iload j, 2)) (hl : Ls[j]? = some (.val (.int v))) (hn : pc + 2 = n) (g : Goes p e below s Q K N (T.setTop (mkF m n Ls (.int v :: st)))) : Goes p e below s Q K N (T.setTop (mkF m pc Ls st)) := by
  subst hn
  exact g.via fun t k => XS.iload X.here hx rfl hd hl k
theorem o_iloadN (X : Stand p l e R s m args below meth c T locs cells slots) (hx : p.tables.exec = Jvm.exec) {j : Fin 4} {v : Int32} (hd : decode c.code pc = .ok (.iload_n j, 1)) (hl : Ls[j.val]? = some (.val (.int v))) (hn : pc + 1 = n) (g : Goes p e below s Q K N (T.setTop (mkF m n Ls (.int v :: st)))) : Goes p e below s Q K N (T.setTop (mkF m pc Ls st)) := by
  subst hn
  exact g.via fun t k => XS.iloadN X.here hx rfl hd hl k
theorem o_lload (X : Stand p l e R s m args below meth c T locs cells slots) (hx : p.tables.exec = Jvm.exec) {j : Nat} {v : Int64} (hd : decode c.code pc = .ok (.lload j, 2)) (hl : Ls[j]? = some (.val (.long v))) (hn : pc + 2 = n) (g : Goes p e below s Q K N (T.setTop (mkF m n Ls (.long v :: st)))) : Goes p e below s Q K N (T.setTop (mkF m pc Ls st)) := by
  subst hn
  exact g.via fun t k => XS.lload X.here hx rfl hd hl k
theorem o_lloadN (X : Stand p l e R s m args below meth c T locs cells slots) (hx : p.tables.exec = Jvm.exec) {j : Fin 4} {v : Int64} (hd : decode c.code pc = .ok (.lload_n j, 1)) (hl : Ls[j.val]? = some (.val (.long v))) (hn : pc + 1 = n) (g : Goes p e below s Q K N (T.setTop (mkF m n Ls (.long v :: st)))) : Goes p e below s Q K N (T.setTop (mkF m pc Ls st)) := by
  subst hn
  exact g.via fun t k => XS.lloadN X.here hx rfl hd hl k
theorem o_aload (X : Stand p l e R s m args below meth c T locs cells slots) (hx : p.tables.exec = Jvm.exec) {j : Nat} {v : Value} (hd : decode c.code pc = .ok (.aload j, 2)) (hl : Ls[j]? = some (.val v)) (hv : v.isRef = true) (hn : pc + 2 = n) (g : Goes p e below s Q K N (T.setTop (mkF m n Ls (v :: st)))) : Goes p e below s Q K N (T.setTop (mkF m pc Ls st)) := by
  subst hn
  exact g.via fun t k => XS.aload X.here hx rfl hd hl hv k
theorem o_aloadN (X : Stand p l e R s m args below meth c T locs cells slots) (hx : p.tables.exec = Jvm.exec) {j : Fin 4} {v : Value} (hd : decode c.code pc = .ok (.aload_n j, 1)) (hl : Ls[j.val]? = some (.val v)) (hv : v.isRef = true) (hn : pc + 1 = n) (g : Goes p e below s Q K N (T.setTop (mkF m n Ls (v :: st)))) : Goes p e below s Q K N (T.setTop (mkF m pc Ls st)) := by
  subst hn
  exact g.via fun t k => XS.aloadN X.here hx rfl hd hl hv k
theorem o_istore (X : Stand p l e R s m args below meth c T locs cells slots) (hx : p.tables.exec = Jvm.exec) {j : Nat} {v : Int32} {Ls' : Array Slot} (hd : decode c.code pc = .ok (.istore j, 2)) (hl : storeLocals Ls j (.int v) = some Ls') (hn : pc + 2 = n) (g : Goes p e below s Q K N (T.setTop (mkF m n Ls' rest))) : Goes p e below s Q K N (T.setTop (mkF m pc Ls (.int v :: rest))) := by
  subst hn
  exact g.via fun t k => XS.istore X.here hx rfl hd rfl hl k
theorem o_istoreN (X : Stand p l e R s m args below meth c T locs cells slots) (hx : p.tables.exec = Jvm.exec) {j : Fin 4} {v : Int32} {Ls' : Array Slot} (hd : decode c.code pc = .ok (.istore_n j, 1)) (hl : storeLocals Ls j.val (.int v) = some Ls') (hn : pc + 1 = n) (g : Goes p e below s Q K N (T.setTop (mkF m n Ls' rest))) : Goes p e below s Q K N (T.setTop (mkF m pc Ls (.int v :: rest))) := by
  subst hn
  exact g.via fun t k => XS.istoreN X.here hx rfl hd rfl hl k
theorem o_lstore (X : Stand p l e R s m args below meth c T locs cells slots) (hx : p.tables.exec = Jvm.exec) {j : Nat} {v : Int64} {Ls' : Array Slot} (hd : decode c.code pc = .ok (.lstore j, 2)) (hl : storeLocals Ls j (.long v) = some Ls') (hn : pc + 2 = n) (g : Goes p e below s Q K N (T.setTop (mkF m n Ls' rest))) : Goes p e below s Q K N (T.setTop (mkF m pc Ls (.long v :: rest))) := by
  subst hn
  exact g.via fun t k => XS.lstore X.here hx rfl hd rfl hl k
theorem o_lstoreN (X : Stand p l e R s m args below meth c T locs cells slots) (hx : p.tables.exec = Jvm.exec) {j : Fin 4} {v : Int64} {Ls' : Array Slot} (hd : decode c.code pc = .ok (.lstore_n j, 1)) (hl : storeLocals Ls j.val (.long v) = some Ls') (hn : pc + 1 = n) (g : Goes p e below s Q K N (T.setTop (mkF m n Ls' rest))) : Goes p e below s Q K N (T.setTop (mkF m pc Ls (.long v :: rest))) := by
  subst hn
  exact g.via fun t k => XS.lstoreN X.here hx rfl hd rfl hl k
theorem o_astore (X : Stand p l e R s m args below meth c T locs cells slots) (hx : p.tables.exec = Jvm.exec) {j : Nat} {v : Value} {Ls' : Array Slot} (hd : decode c.code pc = .ok (.astore j, 2)) (hv : v.isRef = true) (hl : storeLocals Ls j v = some Ls') (hn : pc + 2 = n) (g : Goes p e below s Q K N (T.setTop (mkF m n Ls' rest))) : Goes p e below s Q K N (T.setTop (mkF m pc Ls (v :: rest))) := by
  subst hn
  exact g.via fun t k => XS.astore X.here hx rfl hd rfl hv hl k
theorem o_astoreN (X : Stand p l e R s m args below meth c T locs cells slots) (hx : p.tables.exec = Jvm.exec) {j : Fin 4} {v : Value} {Ls' : Array Slot} (hd : decode c.code pc = .ok (.astore_n j, 1)) (hv : v.isRef = true) (hl : storeLocals Ls j.val v = some Ls') (hn : pc + 1 = n) (g : Goes p e below s Q K N (T.setTop (mkF m n Ls' rest))) : Goes p e below s Q K N (T.setTop (mkF m pc Ls (v :: rest))) := by
  subst hn
  exact g.via fun t k => XS.astoreN X.here hx rfl hd rfl hv hl k
theorem o_iinc (X : Stand p l e R s m args below meth c T locs cells slots) (hx : p.tables.exec = Jvm.exec) {j : Nat} {cst : Int} {x w : Int32} {Ls' : Array Slot} (hd : decode c.code pc = .ok (.iinc j cst, 3)) (hl : Ls[j]? = some (.val (.int x))) (hw : x + Int32.ofInt cst = w) (hl' : storeLocals Ls j (.int w) = some Ls') (hn : pc + 3 = n) (g : Goes p e below s Q K N (T.setTop (mkF m n Ls' st))) : Goes p e below s Q K N (T.setTop (mkF m pc Ls st)) := by
  subst hn
  exact g.via fun t k => XS.iinc X.here hx rfl hd hl (by rw [hw]; exact hl') k
theorem o_iconst (X : Stand p l e R s m args below meth c T locs cells slots) (hx : p.tables.exec = Jvm.exec) {i : Int} {v : Int32} (hd : decode c.code pc = .ok (.iconst i, 1)) (hv : Int32.ofInt i = v) (hn : pc + 1 = n) (g : Goes p e below s Q K N (T.setTop (mkF m n Ls (.int v :: st)))) : Goes p e below s Q K N (T.setTop (mkF m pc Ls st)) := by
  subst hn hv
  exact g.via fun t k => XS.iconst X.here hx rfl hd k
theorem o_bipush (X : Stand p l e R s m args below meth c T locs cells slots) (hx : p.tables.exec = Jvm.exec) {i : Int} {v : Int32} (hd : decode c.code pc = .ok (.bipush i, 2)) (hv : (Int8.ofInt i).toInt32 = v) (hn : pc + 2 = n) (g : Goes p e below s Q K N (T.setTop (mkF m n Ls (.int v :: st)))) : Goes p e below s Q K N (T.setTop (mkF m pc Ls st)) := by
  subst hn hv
  exact g.via fun t k => XS.bipush X.here hx rfl hd k
theorem o_sipush (X : Stand p l e R s m args below meth c T locs cells slots) (hx : p.tables.exec = Jvm.exec) {i : Int} {v : Int32} (hd : decode c.code pc = .ok (.sipush i, 3)) (hv : (Int16.ofInt i).toInt32 = v) (hn : pc + 3 = n) (g : Goes p e below s Q K N (T.setTop (mkF m n Ls (.int v :: st)))) : Goes p e below s Q K N (T.setTop (mkF m pc Ls st)) := by
  subst hn hv
  exact g.via fun t k => XS.sipush X.here hx rfl hd k
theorem o_lconst (X : Stand p l e R s m args below meth c T locs cells slots) (hx : p.tables.exec = Jvm.exec) {j : Fin 2} {v : Int64} (hd : decode c.code pc = .ok (.lconst j, 1)) (hv : Int64.ofNat j = v) (hn : pc + 1 = n) (g : Goes p e below s Q K N (T.setTop (mkF m n Ls (.long v :: st)))) : Goes p e below s Q K N (T.setTop (mkF m pc Ls st)) := by
  subst hn hv
  exact g.via fun t k => XS.lconst X.here hx rfl hd k
theorem o_aconst_null (X : Stand p l e R s m args below meth c T locs cells slots) (hx : p.tables.exec = Jvm.exec)  (hd : decode c.code pc = .ok (.aconst_null, 1)) (hn : pc + 1 = n) (g : Goes p e below s Q K N (T.setTop (mkF m n Ls (.null :: st)))) : Goes p e below s Q K N (T.setTop (mkF m pc Ls st)) := by
  subst hn
  exact g.via fun t k => XS.aconstNull X.here hx rfl hd k
theorem o_ldc (X : Stand p l e R s m args below meth c T locs cells slots) (hx : p.tables.exec = Jvm.exec)  (hZ : Z.Warmed39 s.vm) {own : String} {index : Nat} {v : Int32} (hown : s.vm.findClass own = some m.cls) (w : (Jvm.Cond.constant own index v).before a0 Z = true) (hd : decode c.code pc = .ok (.ldc index, 2)) (hn : pc + 2 = n) (g : Goes p e below s Q K N (T.setTop (mkF m n Ls (.int v :: st)))) : Goes p e below s Q K N (T.setTop (mkF m pc Ls st)) := by
  subst hn
  exact g.via fun t k => X.ldcInt hx hown (mvT hZ w) (g := mkF m pc Ls st) rfl hd t k
theorem o_ldc_w (X : Stand p l e R s m args below meth c T locs cells slots) (hx : p.tables.exec = Jvm.exec)  (hZ : Z.Warmed39 s.vm) {own : String} {index : Nat} {v : Int32} (hown : s.vm.findClass own = some m.cls) (w : (Jvm.Cond.constant own index v).before a0 Z = true) (hd : decode c.code pc = .ok (.ldc_w index, 3)) (hn : pc + 3 = n) (g : Goes p e below s Q K N (T.setTop (mkF m n Ls (.int v :: st)))) : Goes p e below s Q K N (T.setTop (mkF m pc Ls st)) := by
  subst hn
  exact g.via fun t k => X.ldcWInt hx hown (mvT hZ w) (g := mkF m pc Ls st) rfl hd t k
theorem o_ldc2_w (X : Stand p l e R s m args below meth c T locs cells slots) (hx : p.tables.exec = Jvm.exec)  (hZ : Z.Warmed39 s.vm) {own : String} {index : Nat} {v : Int64} (hown : s.vm.findClass own = some m.cls) (w : (Jvm.Cond.constantLong own index v).before a0 Z = true) (hd : decode c.code pc = .ok (.ldc2_w index, 3)) (hn : pc + 3 = n) (g : Goes p e below s Q K N (T.setTop (mkF m n Ls (.long v :: st)))) : Goes p e below s Q K N (T.setTop (mkF m pc Ls st)) := by
  subst hn
  exact g.via fun t k => X.ldc2Long hx hown (mvT hZ w) (g := mkF m pc Ls st) rfl hd t k
theorem o_iadd (X : Stand p l e R s m args below meth c T locs cells slots) (hx : p.tables.exec = Jvm.exec) {x y v : Int32} (hd : decode c.code pc = .ok (.iadd, 1)) (hv : x + y = v) (hn : pc + 1 = n) (g : Goes p e below s Q K N (T.setTop (mkF m n Ls (.int v :: rest)))) : Goes p e below s Q K N (T.setTop (mkF m pc Ls (.int y :: .int x :: rest))) := by
  subst hn hv
  exact g.via fun t k => XS.iadd X.here hx rfl hd rfl k
theorem o_isub (X : Stand p l e R s m args below meth c T locs cells slots) (hx : p.tables.exec = Jvm.exec) {x y v : Int32} (hd : decode c.code pc = .ok (.isub, 1)) (hv : x - y = v) (hn : pc + 1 = n) (g : Goes p e below s Q K N (T.setTop (mkF m n Ls (.int v :: rest)))) : Goes p e below s Q K N (T.setTop (mkF m pc Ls (.int y :: .int x :: rest))) := by
  subst hn hv
  exact g.via fun t k => XS.isub X.here hx rfl hd rfl k
theorem o_imul (X : Stand p l e R s m args below meth c T locs cells slots) (hx : p.tables.exec = Jvm.exec) {x y v : Int32} (hd : decode c.code pc = .ok (.imul, 1)) (hv : x * y = v) (hn : pc + 1 = n) (g : Goes p e below s Q K N (T.setTop (mkF m n Ls (.int v :: rest)))) : Goes p e below s Q K N (T.setTop (mkF m pc Ls (.int y :: .int x :: rest))) := by
  subst hn hv
  exact g.via fun t k => XS.imul X.here hx rfl hd rfl k
theorem o_iand (X : Stand p l e R s m args below meth c T locs cells slots) (hx : p.tables.exec = Jvm.exec) {x y v : Int32} (hd : decode c.code pc = .ok (.iand, 1)) (hv : x &&& y = v) (hn : pc + 1 = n) (g : Goes p e below s Q K N (T.setTop (mkF m n Ls (.int v :: rest)))) : Goes p e below s Q K N (T.setTop (mkF m pc Ls (.int y :: .int x :: rest))) := by
  subst hn hv
  exact g.via fun t k => XS.iand X.here hx rfl hd rfl k
theorem o_ior (X : Stand p l e R s m args below meth c T locs cells slots) (hx : p.tables.exec = Jvm.exec) {x y v : Int32} (hd : decode c.code pc = .ok (.ior, 1)) (hv : x ||| y = v) (hn : pc + 1 = n) (g : Goes p e below s Q K N (T.setTop (mkF m n Ls (.int v :: rest)))) : Goes p e below s Q K N (T.setTop (mkF m pc Ls (.int y :: .int x :: rest))) := by
  subst hn hv
  exact g.via fun t k => XS.ior X.here hx rfl hd rfl k
theorem o_ixor (X : Stand p l e R s m args below meth c T locs cells slots) (hx : p.tables.exec = Jvm.exec) {x y v : Int32} (hd : decode c.code pc = .ok (.ixor, 1)) (hv : x ^^^ y = v) (hn : pc + 1 = n) (g : Goes p e below s Q K N (T.setTop (mkF m n Ls (.int v :: rest)))) : Goes p e below s Q K N (T.setTop (mkF m pc Ls (.int y :: .int x :: rest))) := by
  subst hn hv
  exact g.via fun t k => XS.ixor X.here hx rfl hd rfl k
theorem o_ladd (X : Stand p l e R s m args below meth c T locs cells slots) (hx : p.tables.exec = Jvm.exec) {x y v : Int64} (hd : decode c.code pc = .ok (.ladd, 1)) (hv : x + y = v) (hn : pc + 1 = n) (g : Goes p e below s Q K N (T.setTop (mkF m n Ls (.long v :: rest)))) : Goes p e below s Q K N (T.setTop (mkF m pc Ls (.long y :: .long x :: rest))) := by
  subst hn hv
  exact g.via fun t k => XS.ladd X.here hx rfl hd rfl k
theorem o_lsub (X : Stand p l e R s m args below meth c T locs cells slots) (hx : p.tables.exec = Jvm.exec) {x y v : Int64} (hd : decode c.code pc = .ok (.lsub, 1)) (hv : x - y = v) (hn : pc + 1 = n) (g : Goes p e below s Q K N (T.setTop (mkF m n Ls (.long v :: rest)))) : Goes p e below s Q K N (T.setTop (mkF m pc Ls (.long y :: .long x :: rest))) := by
  subst hn hv
  exact g.via fun t k => XS.lsub X.here hx rfl hd rfl k
theorem o_lmul (X : Stand p l e R s m args below meth c T locs cells slots) (hx : p.tables.exec = Jvm.exec) {x y v : Int64} (hd : decode c.code pc = .ok (.lmul, 1)) (hv : x * y = v) (hn : pc + 1 = n) (g : Goes p e below s Q K N (T.setTop (mkF m n Ls (.long v :: rest)))) : Goes p e below s Q K N (T.setTop (mkF m pc Ls (.long y :: .long x :: rest))) := by
  subst hn hv
  exact g.via fun t k => XS.lmul X.here hx rfl hd rfl k
theorem o_land (X : Stand p l e R s m args below meth c T locs cells slots) (hx : p.tables.exec = Jvm.exec) {x y v : Int64} (hd : decode c.code pc = .ok (.land, 1)) (hv : x &&& y = v) (hn : pc + 1 = n) (g : Goes p e below s Q K N (T.setTop (mkF m n Ls (.long v :: rest)))) : Goes p e below s Q K N (T.setTop (mkF m pc Ls (.long y :: .long x :: rest))) := by
  subst hn hv
  exact g.via fun t k => XS.land X.here hx rfl hd rfl k
theorem o_lor (X : Stand p l e R s m args below meth c T locs cells slots) (hx : p.tables.exec = Jvm.exec) {x y v : Int64} (hd : decode c.code pc = .ok (.lor, 1)) (hv : x ||| y = v) (hn : pc + 1 = n) (g : Goes p e below s Q K N (T.setTop (mkF m n Ls (.long v :: rest)))) : Goes p e below s Q K N (T.setTop (mkF m pc Ls (.long y :: .long x :: rest))) := by
  subst hn hv
  exact g.via fun t k => XS.lor X.here hx rfl hd rfl k
theorem o_lxor (X : Stand p l e R s m args below meth c T locs cells slots) (hx : p.tables.exec = Jvm.exec) {x y v : Int64} (hd : decode c.code pc = .ok (.lxor, 1)) (hv : x ^^^ y = v) (hn : pc + 1 = n) (g : Goes p e below s Q K N (T.setTop (mkF m n Ls (.long v :: rest)))) : Goes p e below s Q K N (T.setTop (mkF m pc Ls (.long y :: .long x :: rest))) := by
  subst hn hv
  exact g.via fun t k => XS.lxor X.here hx rfl hd rfl k
theorem o_idiv (X : Stand p l e R s m args below meth c T locs cells slots) (hx : p.tables.exec = Jvm.exec) {x y v : Int32} (hd : decode c.code pc = .ok (.idiv, 1)) (hy : y ≠ 0) (hv : x / y = v) (hn : pc + 1 = n) (g : Goes p e below s Q K N (T.setTop (mkF m n Ls (.int v :: rest)))) : Goes p e below s Q K N (T.setTop (mkF m pc Ls (.int y :: .int x :: rest))) := by
  subst hn hv
  exact g.via fun t k => XS.idiv X.here hx rfl hd rfl hy k
theorem o_irem (X : Stand p l e R s m args below meth c T locs cells slots) (hx : p.tables.exec = Jvm.exec) {x y v : Int32} (hd : decode c.code pc = .ok (.irem, 1)) (hy : y ≠ 0) (hv : x % y = v) (hn : pc + 1 = n) (g : Goes p e below s Q K N (T.setTop (mkF m n Ls (.int v :: rest)))) : Goes p e below s Q K N (T.setTop (mkF m pc Ls (.int y :: .int x :: rest))) := by
  subst hn hv
  exact g.via fun t k => iremM X hx (g := mkF m pc Ls _) rfl hd rfl hy k
theorem o_ldiv (X : Stand p l e R s m args below meth c T locs cells slots) (hx : p.tables.exec = Jvm.exec) {x y v : Int64} (hd : decode c.code pc = .ok (.ldiv, 1)) (hy : y ≠ 0) (hv : x / y = v) (hn : pc + 1 = n) (g : Goes p e below s Q K N (T.setTop (mkF m n Ls (.long v :: rest)))) : Goes p e below s Q K N (T.setTop (mkF m pc Ls (.long y :: .long x :: rest))) := by
  subst hn hv
  exact g.via fun t k => XS.ldiv X.here hx rfl hd rfl hy k
theorem o_lrem (X : Stand p l e R s m args below meth c T locs cells slots) (hx : p.tables.exec = Jvm.exec) {x y v : Int64} (hd : decode c.code pc = .ok (.lrem, 1)) (hy : y ≠ 0) (hv : x % y = v) (hn : pc + 1 = n) (g : Goes p e below s Q K N (T.setTop (mkF m n Ls (.long v :: rest)))) : Goes p e below s Q K N (T.setTop (mkF m pc Ls (.long y :: .long x :: rest))) := by
  subst hn hv
  exact g.via fun t k => XS.lrem X.here hx rfl hd rfl hy (by rw [lrem_mod]; exact k)
theorem o_ishl (X : Stand p l e R s m args below meth c T locs cells slots) (hx : p.tables.exec = Jvm.exec) {x y v : Int32} (hd : decode c.code pc = .ok (.ishl, 1)) (hv : x <<< (y &&& 31) = v) (hn : pc + 1 = n) (g : Goes p e below s Q K N (T.setTop (mkF m n Ls (.int v :: rest)))) : Goes p e below s Q K N (T.setTop (mkF m pc Ls (.int y :: .int x :: rest))) := by
  subst hn hv
  exact g.via fun t k => XS.ishl X.here hx rfl hd rfl k
theorem o_ishr (X : Stand p l e R s m args below meth c T locs cells slots) (hx : p.tables.exec = Jvm.exec) {x y v : Int32} (hd : decode c.code pc = .ok (.ishr, 1)) (hv : x >>> (y &&& 31) = v) (hn : pc + 1 = n) (g : Goes p e below s Q K N (T.setTop (mkF m n Ls (.int v :: rest)))) : Goes p e below s Q K N (T.setTop (mkF m pc Ls (.int y :: .int x :: rest))) := by
  subst hn hv
  exact g.via fun t k => XS.ishr X.here hx rfl hd rfl k
theorem o_iushr (X : Stand p l e R s m args below meth c T locs cells slots) (hx : p.tables.exec = Jvm.exec) {x y v : Int32} (hd : decode c.code pc = .ok (.iushr, 1)) (hv : (x.toUInt32 >>> (y &&& 31).toUInt32).toInt32 = v) (hn : pc + 1 = n) (g : Goes p e below s Q K N (T.setTop (mkF m n Ls (.int v :: rest)))) : Goes p e below s Q K N (T.setTop (mkF m pc Ls (.int y :: .int x :: rest))) := by
  subst hn hv
  exact g.via fun t k => XS.iushr X.here hx rfl hd rfl k
theorem o_lshl (X : Stand p l e R s m args below meth c T locs cells slots) (hx : p.tables.exec = Jvm.exec) {x v : Int64} {y : Int32} (hd : decode c.code pc = .ok (.lshl, 1)) (hv : x <<< (y &&& 0x3f).toInt64 = v) (hn : pc + 1 = n) (g : Goes p e below s Q K N (T.setTop (mkF m n Ls (.long v :: rest)))) : Goes p e below s Q K N (T.setTop (mkF m pc Ls (.int y :: .long x :: rest))) := by
  subst hn hv
  exact g.via fun t k => XS.lshl X.here hx rfl hd rfl k
theorem o_lshr (X : Stand p l e R s m args below meth c T locs cells slots) (hx : p.tables.exec = Jvm.exec) {x v : Int64} {y : Int32} (hd : decode c.code pc = .ok (.lshr, 1)) (hv : x >>> (y &&& 0x3f).toInt64 = v) (hn : pc + 1 = n) (g : Goes p e below s Q K N (T.setTop (mkF m n Ls (.long v :: rest)))) : Goes p e below s Q K N (T.setTop (mkF m pc Ls (.int y :: .long x :: rest))) := by
  subst hn hv
  exact g.via fun t k => XS.lshr X.here hx rfl hd rfl k
theorem o_lushr (X : Stand p l e R s m args below meth c T locs cells slots) (hx : p.tables.exec = Jvm.exec) {x v : Int64} {y : Int32} (hd : decode c.code pc = .ok (.lushr, 1)) (hv : (x.toUInt64 >>> (y &&& 0x3f).toInt64.toUInt64).toInt64 = v) (hn : pc + 1 = n) (g : Goes p e below s Q K N (T.setTop (mkF m n Ls (.long v :: rest)))) : Goes p e below s Q K N (T.setTop (mkF m pc Ls (.int y :: .long x :: rest))) := by
  subst hn hv
  exact g.via fun t k => XS.lushr X.here hx rfl hd rfl k
theorem o_i2l (X : Stand p l e R s m args below meth c T locs cells slots) (hx : p.tables.exec = Jvm.exec) {x : Int32} {v : Int64} (hd : decode c.code pc = .ok (.i2l, 1)) (hv : x.toInt64 = v) (hn : pc + 1 = n) (g : Goes p e below s Q K N (T.setTop (mkF m n Ls (.long v :: rest)))) : Goes p e below s Q K N (T.setTop (mkF m pc Ls (.int x :: rest))) := by
  subst hn hv
  exact g.via fun t k => XS.i2l X.here hx rfl hd rfl k
theorem o_l2i (X : Stand p l e R s m args below meth c T locs cells slots) (hx : p.tables.exec = Jvm.exec) {x : Int64} {v : Int32} (hd : decode c.code pc = .ok (.l2i, 1)) (hv : x.toInt32 = v) (hn : pc + 1 = n) (g : Goes p e below s Q K N (T.setTop (mkF m n Ls (.int v :: rest)))) : Goes p e below s Q K N (T.setTop (mkF m pc Ls (.long x :: rest))) := by
  subst hn hv
  exact g.via fun t k => XS.l2i X.here hx rfl hd rfl k
theorem o_i2b (X : Stand p l e R s m args below meth c T locs cells slots) (hx : p.tables.exec = Jvm.exec) {x : Int32} {v : Int32} (hd : decode c.code pc = .ok (.i2b, 1)) (hv : x.toInt8.toInt32 = v) (hn : pc + 1 = n) (g : Goes p e below s Q K N (T.setTop (mkF m n Ls (.int v :: rest)))) : Goes p e below s Q K N (T.setTop (mkF m pc Ls (.int x :: rest))) := by
  subst hn hv
  exact g.via fun t k => XS.i2b X.here hx rfl hd rfl k
theorem o_i2c (X : Stand p l e R s m args below meth c T locs cells slots) (hx : p.tables.exec = Jvm.exec) {x : Int32} {v : Int32} (hd : decode c.code pc = .ok (.i2c, 1)) (hv : x.toUInt32.toUInt16.toUInt32.toInt32 = v) (hn : pc + 1 = n) (g : Goes p e below s Q K N (T.setTop (mkF m n Ls (.int v :: rest)))) : Goes p e below s Q K N (T.setTop (mkF m pc Ls (.int x :: rest))) := by
  subst hn hv
  exact g.via fun t k => XS.i2c X.here hx rfl hd rfl k
theorem o_i2s (X : Stand p l e R s m args below meth c T locs cells slots) (hx : p.tables.exec = Jvm.exec) {x : Int32} {v : Int32} (hd : decode c.code pc = .ok (.i2s, 1)) (hv : x.toInt16.toInt32 = v) (hn : pc + 1 = n) (g : Goes p e below s Q K N (T.setTop (mkF m n Ls (.int v :: rest)))) : Goes p e below s Q K N (T.setTop (mkF m pc Ls (.int x :: rest))) := by
  subst hn hv
  exact g.via fun t k => XS.i2s X.here hx rfl hd rfl k
theorem o_ineg (X : Stand p l e R s m args below meth c T locs cells slots) (hx : p.tables.exec = Jvm.exec) {x : Int32} {v : Int32} (hd : decode c.code pc = .ok (.ineg, 1)) (hv : -x = v) (hn : pc + 1 = n) (g : Goes p e below s Q K N (T.setTop (mkF m n Ls (.int v :: rest)))) : Goes p e below s Q K N (T.setTop (mkF m pc Ls (.int x :: rest))) := by
  subst hn hv
  exact g.via fun t k => XS.ineg X.here hx rfl hd rfl k
theorem o_lneg (X : Stand p l e R s m args below meth c T locs cells slots) (hx : p.tables.exec = Jvm.exec) {x : Int64} {v : Int64} (hd : decode c.code pc = .ok (.lneg, 1)) (hv : -x = v) (hn : pc + 1 = n) (g : Goes p e below s Q K N (T.setTop (mkF m n Ls (.long v :: rest)))) : Goes p e below s Q K N (T.setTop (mkF m pc Ls (.long x :: rest))) := by
  subst hn hv
  exact g.via fun t k => XS.lneg X.here hx rfl hd rfl k
theorem o_lcmp (X : Stand p l e R s m args below meth c T locs cells slots) (hx : p.tables.exec = Jvm.exec) {x y : Int64} (hd : decode c.code pc = .ok (.lcmp, 1)) (hn : pc + 1 = n) (g : Goes p e below s Q K N (T.setTop (mkF m n Ls (.int (XT.cmpL x y) :: rest)))) : Goes p e below s Q K N (T.setTop (mkF m pc Ls (.long y :: .long x :: rest))) := by
  subst hn
  exact g.via fun t k => XT.lcmp X.here hx rfl hd rfl k
theorem o_dup (X : Stand p l e R s m args below meth c T locs cells slots) (hx : p.tables.exec = Jvm.exec) {v : Value} (hd : decode c.code pc = .ok (.dup, 1)) (hv : v.category = 1) (hn : pc + 1 = n) (g : Goes p e below s Q K N (T.setTop (mkF m n Ls (v :: v :: rest)))) : Goes p e below s Q K N (T.setTop (mkF m pc Ls (v :: rest))) := by
  subst hn
  exact g.via fun t k => XS.dup X.here hx rfl hd rfl hv k
theorem o_dup_x1 (X : Stand p l e R s m args below meth c T locs cells slots) (hx : p.tables.exec = Jvm.exec) {v w : Value} (hd : decode c.code pc = .ok (.dup_x1, 1)) (hv : v.category = 1) (hw : w.category = 1) (hn : pc + 1 = n) (g : Goes p e below s Q K N (T.setTop (mkF m n Ls (v :: w :: v :: rest)))) : Goes p e below s Q K N (T.setTop (mkF m pc Ls (v :: w :: rest))) := by
  subst hn
  exact g.via fun t k => XS.dupX1 X.here hx rfl hd rfl hv hw k
theorem o_dup2 (X : Stand p l e R s m args below meth c T locs cells slots) (hx : p.tables.exec = Jvm.exec) {v w : Value} (hd : decode c.code pc = .ok (.dup2, 1)) (hv : v.category = 1) (hw : w.category = 1) (hn : pc + 1 = n) (g : Goes p e below s Q K N (T.setTop (mkF m n Ls (v :: w :: v :: w :: rest)))) : Goes p e below s Q K N (T.setTop (mkF m pc Ls (v :: w :: rest))) := by
  subst hn
  exact g.via fun t k => XT.dup2 X.here hx rfl hd rfl hv hw k
theorem o_pop (X : Stand p l e R s m args below meth c T locs cells slots) (hx : p.tables.exec = Jvm.exec) {v : Value} (hd : decode c.code pc = .ok (.pop, 1)) (hv : v.category = 1) (hn : pc + 1 = n) (g : Goes p e below s Q K N (T.setTop (mkF m n Ls rest))) : Goes p e below s Q K N (T.setTop (mkF m pc Ls (v :: rest))) := by
  subst hn
  exact g.via fun t k => XS.pop X.here hx rfl hd rfl hv k
theorem o_goto (X : Stand p l e R s m args below meth c T locs cells slots) (hx : p.tables.exec = Jvm.exec) {o : Int} (hd : decode c.code pc = .ok (.goto o, 3)) (ho : 0 ≤ (pc : Int) + o) (hn : ((pc : Int) + o).toNat = n) (g : Goes p e below s Q K N (T.setTop (mkF m n Ls st))) : Goes p e below s Q K N (T.setTop (mkF m pc Ls st)) := by
  exact g.via fun t k => XS.goto X.here hx rfl rfl hd ho hn k
theorem o_ifY (X : Stand p l e R s m args below meth c T locs cells slots) (hx : p.tables.exec = Jvm.exec) {cd : ClassFile.Cond} {x : Int32} {o : Int} (hd : decode c.code pc = .ok (.ifCond cd o, 3)) (hc : ifCond.holds cd x = true) (ho : 0 ≤ (pc : Int) + o) (hn : ((pc : Int) + o).toNat = n) (g : Goes p e below s Q K N (T.setTop (mkF m n Ls rest))) : Goes p e below s Q K N (T.setTop (mkF m pc Ls (.int x :: rest))) := by
  exact g.via fun t k => XS.ifYes X.here hx rfl rfl hd rfl hc ho hn k
theorem o_ifN (X : Stand p l e R s m args below meth c T locs cells slots) (hx : p.tables.exec = Jvm.exec) {cd : ClassFile.Cond} {x : Int32} {o : Int} (hd : decode c.code pc = .ok (.ifCond cd o, 3)) (hc : ifCond.holds cd x = false) (hn : pc + 3 = n) (g : Goes p e below s Q K N (T.setTop (mkF m n Ls rest))) : Goes p e below s Q K N (T.setTop (mkF m pc Ls (.int x :: rest))) := by
  subst hn
  exact g.via fun t k => XS.ifNo X.here hx rfl hd rfl hc k
theorem o_icmpY (X : Stand p l e R s m args below meth c T locs cells slots) (hx : p.tables.exec = Jvm.exec) {cd : ClassFile.Cond} {x y : Int32} {o : Int} (hd : decode c.code pc = .ok (.if_icmp cd o, 3)) (hc : if_icmp.holds cd x y = true) (ho : 0 ≤ (pc : Int) + o) (hn : ((pc : Int) + o).toNat = n) (g : Goes p e below s Q K N (T.setTop (mkF m n Ls rest))) : Goes p e below s Q K N (T.setTop (mkF m pc Ls (.int y :: .int x :: rest))) := by
  exact g.via fun t k => XS.icmpYes X.here hx rfl rfl hd rfl hc ho hn k
theorem o_icmpN (X : Stand p l e R s m args below meth c T locs cells slots) (hx : p.tables.exec = Jvm.exec) {cd : ClassFile.Cond} {x y : Int32} {o : Int} (hd : decode c.code pc = .ok (.if_icmp cd o, 3)) (hc : if_icmp.holds cd x y = false) (hn : pc + 3 = n) (g : Goes p e below s Q K N (T.setTop (mkF m n Ls rest))) : Goes p e below s Q K N (T.setTop (mkF m pc Ls (.int y :: .int x :: rest))) := by
  subst hn
  exact g.via fun t k => XS.icmpNo X.here hx rfl hd rfl hc k
theorem o_ifnullY (X : Stand p l e R s m args below meth c T locs cells slots) (hx : p.tables.exec = Jvm.exec) {o : Int} (hd : decode c.code pc = .ok (.ifnull o, 3)) (ho : 0 ≤ (pc : Int) + o) (hn : ((pc : Int) + o).toNat = n) (g : Goes p e below s Q K N (T.setTop (mkF m n Ls rest))) : Goes p e below s Q K N (T.setTop (mkF m pc Ls (.null :: rest))) := by
  exact g.via fun t k => XS.ifnullYes X.here hx rfl rfl hd rfl ho hn k
theorem o_ifnullN (X : Stand p l e R s m args below meth c T locs cells slots) (hx : p.tables.exec = Jvm.exec) {o : Int} {a : Addr} (hd : decode c.code pc = .ok (.ifnull o, 3)) (hn : pc + 3 = n) (g : Goes p e below s Q K N (T.setTop (mkF m n Ls rest))) : Goes p e below s Q K N (T.setTop (mkF m pc Ls (.ref a :: rest))) := by
  subst hn
  exact g.via fun t k => XS.ifnullNo X.here hx rfl hd rfl k
theorem o_ifnonnullY (X : Stand p l e R s m args below meth c T locs cells slots) (hx : p.tables.exec = Jvm.exec) {o : Int} {a : Addr} (hd : decode c.code pc = .ok (.ifnonnull o, 3)) (ho : 0 ≤ (pc : Int) + o) (hn : ((pc : Int) + o).toNat = n) (g : Goes p e below s Q K N (T.setTop (mkF m n Ls rest))) : Goes p e below s Q K N (T.setTop (mkF m pc Ls (.ref a :: rest))) := by
  exact g.via fun t k => XS.ifnonnullYes X.here hx rfl rfl hd rfl ho hn k
theorem o_ifnonnullN (X : Stand p l e R s m args below meth c T locs cells slots) (hx : p.tables.exec = Jvm.exec) {o : Int} (hd : decode c.code pc = .ok (.ifnonnull o, 3)) (hn : pc + 3 = n) (g : Goes p e below s Q K N (T.setTop (mkF m n Ls rest))) : Goes p e below s Q K N (T.setTop (mkF m pc Ls (.null :: rest))) := by
  subst hn
  exact g.via fun t k => XS.ifnonnullNo X.here hx rfl hd rfl k
theorem o_acmp (X : Stand p l e R s m args below meth c T locs cells slots) (hx : p.tables.exec = Jvm.exec) {cd : ACond} {x y : Value} {o : Int} {same : Bool} (hd : decode c.code pc = .ok (.if_acmp cd o, 3)) (h1 : x.isRef = true) (h2 : y.isRef = true) (hq : decide (x = y) = same) (ho : 0 ≤ (pc : Int) + o) (hn : n = if acV cd same = true then ((pc : Int) + o).toNat else pc + 3) (g : Goes p e below s Q K N (T.setTop (mkF m n Ls rest))) : Goes p e below s Q K N (T.setTop (mkF m pc Ls (y :: x :: rest))) := by
  exact g.via fun t k => Jvm.RoadKit.acmp X hx (g := mkF m pc Ls _) rfl h1 h2 rfl hd rfl hq ho hn k
/-! the heap -/
theorem o_getfield (X : Stand p l e R s m args below meth c T locs cells slots) (hx : p.tables.exec = Jvm.exec) (hZ : Z.Warmed39 s.vm) {own R0 O nm d host : String} {index : Nat} (hown : s.vm.findClass own = some m.cls) (w : (Jvm.Cond.fieldLink own index R0 nm d).before a0 Z = true ∨ (Jvm.Cond.fieldLinkNest own index R0 nm d host).before a0 Z = true) (via : Via Z R0 O nm d) (eT : T.heap = h) {a : Addr} {v : Value} (F : Fld Z h a O nm d v)
    (hd : decode c.code pc = .ok (.getfield index, 3)) (hn : pc + 3 = n) (k : ∀ T', Stand p l e R s m args below meth c T' locs cells slots → T'.heap = h → Goes p e below s Q K N (T'.setTop (mkF m n Ls (v :: rest)))) : Goes p e below s Q K N (T.setTop (mkF m pc Ls (.ref a :: rest))) := by
  subst hn
  obtain ⟨T', X', e', st'⟩ := getF X hx hZ hown w via eT F (g := mkF m pc Ls (.ref a :: rest)) rfl rfl hd
  exact (k T' X' e').via st'
theorem o_putfield (X : Stand p l e R s m args below meth c T locs cells slots) (hx : p.tables.exec = Jvm.exec) (hZ : Z.Warmed39 s.vm) {own R0 O nm d host C : String} {index kk : Nat} {ty : FieldType} (hown : s.vm.findClass own = some m.cls) (w : (Jvm.Cond.fieldLink own index R0 nm d).before a0 Z = true ∨ (Jvm.Cond.fieldLinkNest own index R0 nm d host).before a0 Z = true) (via : Via Z R0 O nm d) (eT : T.heap = h) {a : Addr} {v old : Value} (F : Fld Z h a O nm d old) (E : Exa Z h a C)
    (L : (Jvm.Cond.lays C O nm d).before a0 Z = true ∨ ((Jvm.Cond.laysFinal C O nm d).before a0 Z = true ∧ own = O ∧ meth.name = "<init>")) (wi : (Jvm.Cond.instantiable C kk).before a0 Z = true) (hty : parseFieldDescriptor d = some ty) (hnn : narrow ty v = v) (hf : fits ty v = true) (hd : decode c.code pc = .ok (.putfield index, 3)) (hn : pc + 3 = n)
    (k : ∀ T' h', Stand p l e R s m args below meth c T' (locs ++ [⟨a, Jvm.RoadKit.slotOf Z O nm d⟩]) cells slots → T'.heap = h' → Wr h h' a (Jvm.RoadKit.slotOf Z O nm d) v → Fld Z h' a O nm d v → Exa Z h' a C → Goes p e below s Q K N (T'.setTop (mkF m n Ls rest))) : Goes p e below s Q K N (T.setTop (mkF m pc Ls (v :: .ref a :: rest))) := by
  subst hn
  obtain ⟨T', h', X', e', W, st'⟩ := putF X hx hZ hown w via eT F E L wi hty hnn hf (g := mkF m pc Ls (v :: .ref a :: rest)) rfl rfl hd
  exact (k T' h' X' e' W (F.same W) (E.wr W)).via st'
theorem o_getstatic (X : Stand p l e R s m args below meth c T locs cells slots) (hx : p.tables.exec = Jvm.exec) (hZ : Z.Warmed39 s.vm) {own R0 O nm d host : String} {index : Nat} (hown : s.vm.findClass own = some m.cls) (w : (Jvm.Cond.fieldLink own index R0 nm d).before a0 Z = true ∨ (Jvm.Cond.fieldLinkNest own index R0 nm d host).before a0 Z = true) (via : Via Z R0 O nm d) (eT : T.heap = h) {v : Value} (F : Sta Z h O nm d v)
    (hd : decode c.code pc = .ok (.getstatic index, 3)) (hn : pc + 3 = n) (k : ∀ T', Stand p l e R s m args below meth c T' locs cells slots → T'.heap = h → Goes p e below s Q K N (T'.setTop (mkF m n Ls (v :: st)))) : Goes p e below s Q K N (T.setTop (mkF m pc Ls st)) := by
  subst hn
  obtain ⟨T', X', e', st'⟩ := getS2 X hx hZ hown w via eT F (g := mkF m pc Ls st) rfl hd
  exact (k T' X' e').via st'
theorem o_new (X : Stand p l e R s m args below meth c T locs cells slots) (hx : p.tables.exec = Jvm.exec) (hZ : Z.Warmed39 s.vm) {own C : String} {index kk : Nat} (hown : s.vm.findClass own = some m.cls) (w : (Jvm.Cond.classLink own index C).before a0 Z = true) (wi : (Jvm.Cond.instantiable C kk).before a0 Z = true) (wz : (Jvm.Cond.initialized C).before a0 Z = true) (eT : T.heap = h)
    (hd : decode c.code pc = .ok (.new index, 3)) (hc : cells + 1 ≤ R.cells) (hs : slots + kk ≤ R.slots) (hn : pc + 3 = n)
    (k : ∀ T' h' a, Stand p l e R s m args below meth c T' locs (cells + 1) (slots + kk) → T'.heap = h' → a = h.size → Ext h h' → Exa Z h' a C → (∀ {O nm d : String} {ty : FieldType}, Laid Z a0 C O nm d → parseFieldDescriptor d = some ty → Fld Z h' a O nm d (defaultValue ty)) → Goes p e below s Q K N (T'.setTop (mkF m n Ls (.ref a :: st)))) : Goes p e below s Q K N (T.setTop (mkF m pc Ls st)) := by
  subst hn
  obtain ⟨T', h', X', e', E, A, D, -, st'⟩ := newO X hx hZ hown w wi wz eT (g := mkF m pc Ls st) rfl hd hc hs
  exact (k T' h' _ X' e' rfl E A D).via st'
theorem o_newarray (X : Stand p l e R s m args below meth c T locs cells slots) (hx : p.tables.exec = Jvm.exec) (hZ : Z.Warmed39 s.vm) {aty : ArrayType} (w : (Jvm.Cond.arrayClass (newarray.typeOf aty)).before a0 Z = true) (eT : T.heap = h) {z : Int32} (hd : decode c.code pc = .ok (.newarray aty, 2)) (hz : ¬ z < 0) (cap : Nat) (hcap : z.toNatClampNeg ≤ cap) (hb : cap * 8 ≤ 536870912) (hc : cells + 1 ≤ R.cells) (hs : slots + cap ≤ R.slots) (hn : pc + 2 = n)
    (k : ∀ T' h' a cA, Stand p l e R s m args below meth c T' locs (cells + 1) (slots + cap) → T'.heap = h' → a = h.size → Ext h h' → Arv Z h' a cA (newarray.typeOf aty) z [] (defaultValue (newarray.typeOf aty)) → Goes p e below s Q K N (T'.setTop (mkF m n Ls (.ref a :: rest)))) : Goes p e below s Q K N (T.setTop (mkF m pc Ls (.int z :: rest))) := by
  subst hn
  obtain ⟨T', h', cA, X', e', E, A, st'⟩ := newP X hx hZ w eT (g := mkF m pc Ls (.int z :: rest)) rfl hd rfl hz hcap hb hc hs
  exact (k T' h' _ cA X' e' rfl E (Arv.new A hz)).via st'
theorem o_arraylength (X : Stand p l e R s m args below meth c T locs cells slots) (hx : p.tables.exec = Jvm.exec) (hZ : Z.Warmed39 s.vm) (eT : T.heap = h) {a : Addr} {k : ClassId} {ty : FieldType} {z : Int32} {vs : List Value} {dv : Value} (V : Arv Z h a k ty z vs dv) (hd : decode c.code pc = .ok (.arraylength, 1)) (hn : pc + 1 = n) (g : Goes p e below s Q K N (T.setTop (mkF m n Ls (.int z :: rest)))) : Goes p e below s Q K N (T.setTop (mkF m pc Ls (.ref a :: rest))) := by
  subst hn
  obtain ⟨cl, A, -, S, M, -, -⟩ := V
  refine g.via fun t k => X.arraylength hx (by rw [eT]; exact A.1) (State.isArrayOf_alike hZ.alike A.2.1) (g := mkF m pc Ls (.ref a :: rest)) rfl rfl hd t ?_
  rw [len_of S M]; exact k
theorem o_iaload (X : Stand p l e R s m args below meth c T locs cells slots) (hx : p.tables.exec = Jvm.exec) (hZ : Z.Warmed39 s.vm) (eT : T.heap = h) {a : Addr} {k : ClassId} {z j : Int32} {vs : List Value} {dv v : Value} (V : Arv Z h a k .int z vs dv) (i : Nat) (hi : j.toNatClampNeg = i) (hj : ¬ j < 0 ∧ j < z) (hv : vs.getD i dv = v) (hd : decode c.code pc = .ok (.iaload, 1)) (hn : pc + 1 = n) (g : Goes p e below s Q K N (T.setTop (mkF m n Ls (v :: rest)))) : Goes p e below s Q K N (T.setTop (mkF m pc Ls (.int j :: .ref a :: rest))) := by
  subst hn hi
  obtain ⟨cl, A, -, S, M, H, -⟩ := V
  exact g.via fun t k => X.iaload hx (by rw [eT]; exact A.1) (State.isArrayOf_alike hZ.alike A.2.1) A.2.2 (inb_of S hj) (Has.at H (inb_of S hj) hv) (g := mkF m pc Ls (.int j :: .ref a :: rest)) rfl rfl hd t k
theorem o_laload (X : Stand p l e R s m args below meth c T locs cells slots) (hx : p.tables.exec = Jvm.exec) (hZ : Z.Warmed39 s.vm) (eT : T.heap = h) {a : Addr} {k : ClassId} {z j : Int32} {vs : List Value} {dv v : Value} (V : Arv Z h a k .long z vs dv) (i : Nat) (hi : j.toNatClampNeg = i) (hj : ¬ j < 0 ∧ j < z) (hv : vs.getD i dv = v) (hd : decode c.code pc = .ok (.laload, 1)) (hn : pc + 1 = n) (g : Goes p e below s Q K N (T.setTop (mkF m n Ls (v :: rest)))) : Goes p e below s Q K N (T.setTop (mkF m pc Ls (.int j :: .ref a :: rest))) := by
  subst hn hi
  obtain ⟨cl, A, -, S, M, H, -⟩ := V
  exact g.via fun t k => X.laload hx (by rw [eT]; exact A.1) (State.isArrayOf_alike hZ.alike A.2.1) A.2.2 (inb_of S hj) (Has.at H (inb_of S hj) hv) (g := mkF m pc Ls (.int j :: .ref a :: rest)) rfl rfl hd t k
theorem o_baload (X : Stand p l e R s m args below meth c T locs cells slots) (hx : p.tables.exec = Jvm.exec) (hZ : Z.Warmed39 s.vm) (eT : T.heap = h) {a : Addr} {k : ClassId} {z j : Int32} {vs : List Value} {dv v : Value} (V : Arv Z h a k .byte z vs dv) (i : Nat) (hi : j.toNatClampNeg = i) (hj : ¬ j < 0 ∧ j < z) (hv : vs.getD i dv = v) (hd : decode c.code pc = .ok (.baload, 1)) (hn : pc + 1 = n) (g : Goes p e below s Q K N (T.setTop (mkF m n Ls (v :: rest)))) : Goes p e below s Q K N (T.setTop (mkF m pc Ls (.int j :: .ref a :: rest))) := by
  subst hn hi
  obtain ⟨cl, A, -, S, M, H, -⟩ := V
  exact g.via fun t k => X.baloadBytes hx (by rw [eT]; exact A.1) (State.isArrayOf_alike hZ.alike A.2.1) A.2.2 (inb_of S hj) (Has.at H (inb_of S hj) hv) (g := mkF m pc Ls (.int j :: .ref a :: rest)) rfl rfl hd t k
theorem o_baloadZ (X : Stand p l e R s m args below meth c T locs cells slots) (hx : p.tables.exec = Jvm.exec) (hZ : Z.Warmed39 s.vm) (eT : T.heap = h) {a : Addr} {k : ClassId} {z j : Int32} {vs : List Value} {dv v : Value} (V : Arv Z h a k .boolean z vs dv) (i : Nat) (hi : j.toNatClampNeg = i) (hj : ¬ j < 0 ∧ j < z) (hv : vs.getD i dv = v) (hd : decode c.code pc = .ok (.baload, 1)) (hn : pc + 1 = n) (g : Goes p e below s Q K N (T.setTop (mkF m n Ls (v :: rest)))) : Goes p e below s Q K N (T.setTop (mkF m pc Ls (.int j :: .ref a :: rest))) := by
  subst hn hi
  obtain ⟨cl, A, -, S, M, H, -⟩ := V
  exact g.via fun t k => X.baloadBooleans hx (by rw [eT]; exact A.1) (State.isArrayOf_alike hZ.alike A.2.1) A.2.2 (inb_of S hj) (Has.at H (inb_of S hj) hv) (g := mkF m pc Ls (.int j :: .ref a :: rest)) rfl rfl hd t k
theorem o_aaload (X : Stand p l e R s m args below meth c T locs cells slots) (hx : p.tables.exec = Jvm.exec) (hZ : Z.Warmed39 s.vm) (eT : T.heap = h) {a : Addr} {k : ClassId} {ty : FieldType} {z j : Int32} {vs : List Value} {dv v : Value} (V : Arv Z h a k ty z vs dv) (hty : ty.isReference = true) (i : Nat) (hi : j.toNatClampNeg = i) (hj : ¬ j < 0 ∧ j < z) (hv : vs.getD i dv = v) (hd : decode c.code pc = .ok (.aaload, 1)) (hn : pc + 1 = n) (g : Goes p e below s Q K N (T.setTop (mkF m n Ls (v :: rest)))) : Goes p e below s Q K N (T.setTop (mkF m pc Ls (.int j :: .ref a :: rest))) := by
  subst hn hi
  obtain ⟨cl, A, -, S, M, H, -⟩ := V
  exact g.via fun t k => X.aaload hx (by rw [eT]; exact A.1) (State.isArrayOf_alike hZ.alike A.2.1) hty A.2.2 (inb_of S hj) (Has.at H (inb_of S hj) hv) (g := mkF m pc Ls (.int j :: .ref a :: rest)) rfl rfl hd t k
theorem o_iastore (X : Stand p l e R s m args below meth c T locs cells slots) (hx : p.tables.exec = Jvm.exec) (hZ : Z.Warmed39 s.vm) (eT : T.heap = h) {a : Addr} {k : ClassId} {z j : Int32} {x : Int32} {vs vs' : List Value} {dv w : Value} (V : Arv Z h a k .int z vs dv) (i : Nat) (hi : j.toNatClampNeg = i) (hj : ¬ j < 0 ∧ j < z) (hlen : i < vs.length) (hw : (.int x) = w) (hvs : vs.set i w = vs') (hd : decode c.code pc = .ok (.iastore, 1)) (hn : pc + 1 = n)
    (g : ∀ T' h', Stand p l e R s m args below meth c T' (locs ++ [⟨a, j.toNatClampNeg⟩]) cells slots → T'.heap = h' → Wr h h' a j.toNatClampNeg w → Arv Z h' a k .int z vs' dv → Goes p e below s Q K N (T'.setTop (mkF m n Ls rest))) : Goes p e below s Q K N (T.setTop (mkF m pc Ls (.int x :: .int j :: .ref a :: rest))) := by
  subst hn hvs hw
  obtain ⟨cl, A, q1, S, M, H, G⟩ := V
  obtain ⟨T', h', X', e', W, st'⟩ := stI X hx hZ eT A (j := j) (inb_of S hj) (g := mkF m pc Ls (.int x :: .int j :: .ref a :: rest)) rfl rfl hd
  exact (g T' h' X' e' W (Arv.set A q1 S M H G rfl W i hi hlen)).via st'
theorem o_lastore (X : Stand p l e R s m args below meth c T locs cells slots) (hx : p.tables.exec = Jvm.exec) (hZ : Z.Warmed39 s.vm) (eT : T.heap = h) {a : Addr} {k : ClassId} {z j : Int32} {x : Int64} {vs vs' : List Value} {dv w : Value} (V : Arv Z h a k .long z vs dv) (i : Nat) (hi : j.toNatClampNeg = i) (hj : ¬ j < 0 ∧ j < z) (hlen : i < vs.length) (hw : (.long x) = w) (hvs : vs.set i w = vs') (hd : decode c.code pc = .ok (.lastore, 1)) (hn : pc + 1 = n)
    (g : ∀ T' h', Stand p l e R s m args below meth c T' (locs ++ [⟨a, j.toNatClampNeg⟩]) cells slots → T'.heap = h' → Wr h h' a j.toNatClampNeg w → Arv Z h' a k .long z vs' dv → Goes p e below s Q K N (T'.setTop (mkF m n Ls rest))) : Goes p e below s Q K N (T.setTop (mkF m pc Ls (.long x :: .int j :: .ref a :: rest))) := by
  subst hn hvs hw
  obtain ⟨cl, A, q1, S, M, H, G⟩ := V
  obtain ⟨T', h', X', e', W, st'⟩ := stJ X hx hZ eT A (j := j) (inb_of S hj) (g := mkF m pc Ls (.long x :: .int j :: .ref a :: rest)) rfl rfl hd
  exact (g T' h' X' e' W (Arv.set A q1 S M H G rfl W i hi hlen)).via st'
theorem o_bastore (X : Stand p l e R s m args below meth c T locs cells slots) (hx : p.tables.exec = Jvm.exec) (hZ : Z.Warmed39 s.vm) (eT : T.heap = h) {a : Addr} {k : ClassId} {z j : Int32} {x : Int32} {vs vs' : List Value} {dv w : Value} (V : Arv Z h a k .byte z vs dv) (i : Nat) (hi : j.toNatClampNeg = i) (hj : ¬ j < 0 ∧ j < z) (hlen : i < vs.length) (hw : (.int (nar .byte x)) = w) (hvs : vs.set i w = vs') (hd : decode c.code pc = .ok (.bastore, 1)) (hn : pc + 1 = n)
    (g : ∀ T' h', Stand p l e R s m args below meth c T' (locs ++ [⟨a, j.toNatClampNeg⟩]) cells slots → T'.heap = h' → Wr h h' a j.toNatClampNeg w → Arv Z h' a k .byte z vs' dv → Goes p e below s Q K N (T'.setTop (mkF m n Ls rest))) : Goes p e below s Q K N (T.setTop (mkF m pc Ls (.int x :: .int j :: .ref a :: rest))) := by
  subst hn hvs hw
  obtain ⟨cl, A, q1, S, M, H, G⟩ := V
  obtain ⟨T', h', X', e', W, st'⟩ := stB X hx hZ eT A (j := j) (inb_of S hj) (g := mkF m pc Ls (.int x :: .int j :: .ref a :: rest)) rfl rfl hd
  exact (g T' h' X' e' W (Arv.set A q1 S M H G (fits_nar_byte x) W i hi hlen)).via st'
theorem o_bastoreZ (X : Stand p l e R s m args below meth c T locs cells slots) (hx : p.tables.exec = Jvm.exec) (hZ : Z.Warmed39 s.vm) (eT : T.heap = h) {a : Addr} {k : ClassId} {z j : Int32} {x : Int32} {vs vs' : List Value} {dv w : Value} (V : Arv Z h a k .boolean z vs dv) (i : Nat) (hi : j.toNatClampNeg = i) (hj : ¬ j < 0 ∧ j < z) (hlen : i < vs.length) (hw : (.int (nar .boolean x)) = w) (hvs : vs.set i w = vs') (hd : decode c.code pc = .ok (.bastore, 1)) (hn : pc + 1 = n)
    (g : ∀ T' h', Stand p l e R s m args below meth c T' (locs ++ [⟨a, j.toNatClampNeg⟩]) cells slots → T'.heap = h' → Wr h h' a j.toNatClampNeg w → Arv Z h' a k .boolean z vs' dv → Goes p e below s Q K N (T'.setTop (mkF m n Ls rest))) : Goes p e below s Q K N (T.setTop (mkF m pc Ls (.int x :: .int j :: .ref a :: rest))) := by
  subst hn hvs hw
  obtain ⟨cl, A, q1, S, M, H, G⟩ := V
  obtain ⟨T', h', X', e', W, st'⟩ := stZ X hx hZ eT A (j := j) (inb_of S hj) (g := mkF m pc Ls (.int x :: .int j :: .ref a :: rest)) rfl rfl hd
  exact (g T' h' X' e' W (Arv.set A q1 S M H G (fits_nar_bool x) W i hi hlen)).via st'

/-! calls -/
theorem o_initO (X : Stand p l e R s m args below meth c T locs cells slots) (hx : p.tables.exec = Jvm.exec) (hZ : Z.Warmed39 s.vm) {own : String} {idx : Nat} (hown : s.vm.findClass own = some m.cls) (w1 : (Jvm.Cond.methodLink own idx Lib.objectInit).before a0 Z = true) (w2 : (Jvm.Cond.instanceMethod Lib.objectInit).before a0 Z = true) (w3 : (Jvm.Cond.code Lib.objectInit ⟨#[0xb1]⟩ 1 none).before a0 Z = true) (eT : T.heap = h) (hsize : Ls.size = c.maxLocals) {a : Addr} (hd : decode c.code pc = .ok (.invokespecial idx, 3)) (hf : 1 ≤ R.frames) (W : Nat) (hW : (rest.map fun v => v.category).sum ≤ W) (hl : W + 12 ≤ R.locals) (hn : pc + 3 = n)
    (k : ∀ T', Stand p l e R s m args below meth c T' locs cells slots → T'.heap = h → Goes p e below s Q K N (T'.setTop (mkF m n Ls rest))) : Goes p e below s Q K N (T.setTop (mkF m pc Ls (.ref a :: rest))) := by
  subst hn
  obtain ⟨T', X', e', st'⟩ := initO X hx hZ hown w1 w2 w3 eT (g := mkF m pc Ls (.ref a :: rest)) rfl hsize rfl hd hf (W := W) (by show 2 * 0 + _ ≤ _; omega) hl
  exact (k T' X' e').via st'
theorem o_acopy (X : Stand p l e R s m args below meth c T locs cells slots) (hx : p.tables.exec = Jvm.exec) (hZ : Z.Warmed39 s.vm) {own : String} {index : Nat} (hown : s.vm.findClass own = some m.cls) (w1 : (Jvm.Cond.methodLink own index Jvm.Stand.acN).before a0 Z = true) (w2 : (Jvm.Cond.native Jvm.Stand.acN).before a0 Z = true) (w3 : (Jvm.Cond.static Jvm.Stand.acN).before a0 Z = true) (w4 : (Jvm.Cond.initialized "java/lang/System").before a0 Z = true) (eT : T.heap = h)
    {a b : Addr} {k k' : ClassId} {ty ty' : FieldType} {z z' sp dp nn : Int32} {vs vd us : List Value} {dv dd : Value} (A : Arv Z h a k ty z vs dv) (B : Arv Z h b k' ty' z' vd dd) (hty : (ty = ty' ∧ refKind ty = false) ∨ (refKind ty = true ∧ refKind ty' = true ∧ StoL Z h b us))
    (H : ¬ sp < 0 ∧ ¬ dp < 0 ∧ ¬ nn < 0 ∧ sp.toNatClampNeg + nn.toNatClampNeg ≤ z.toNatClampNeg ∧ dp.toNatClampNeg + nn.toNatClampNeg ≤ z'.toNatClampNeg ∧ us = ((List.range nn.toNatClampNeg).map fun i => vs.getD (sp.toNatClampNeg + i) dv) ∧ dp.toNatClampNeg + nn.toNatClampNeg ≤ vd.length) {n0 : Nat} (NF : Fr n0 locs) (ge : n0 ≤ b)
    (hsize : Ls.size = c.maxLocals) (hd : decode c.code pc = .ok (.invokestatic index, 3)) (hf : 1 ≤ R.frames) (W : Nat) (hW : (rest.map fun v => v.category).sum ≤ W) (hl : W + 18 ≤ R.locals) (hn : pc + 3 = n)
    (g : ∀ T' h' L, Stand p l e R s m args below meth c T' L cells slots → T'.heap = h' → Fr n0 L → Keep h h' [b] → Arv Z h' b k' ty' z' (vd.take dp.toNatClampNeg ++ us ++ vd.drop (dp.toNatClampNeg + nn.toNatClampNeg)) dd → Goes p e below s Q K N (T'.setTop (mkF m n Ls rest))) : Goes p e below s Q K N (T.setTop (mkF m pc Ls (.int nn :: .int dp :: .ref b :: .int sp :: .ref a :: rest))) := by
  subst hn
  obtain ⟨h1, h2, h3, h4, h5, h6, h7⟩ := H
  obtain ⟨T', h', L, X', e', N', K', V', st'⟩ := cpA X hx hZ hown w1 w2 w3 w4 eT A B hty h1 h2 h3 h4 h5 h6 h7 NF ge (g := mkF m pc Ls (.int nn :: .int dp :: .ref b :: .int sp :: .ref a :: rest)) rfl hsize rfl hd hf (W := W) (by show 2 * 0 + _ ≤ _; omega) (show W + (7 + 11) ≤ R.locals from hl)
  exact (g T' h' L X' e' N' K' V').via st'
theorem o_callS (X : Stand p l e R s m args below meth c T locs cells slots) (hx : p.tables.exec = Jvm.exec) (hZ : Z.Warmed39 s.vm) {own : String} {index : Nat} {y : MethodName} {bytes : ByteArray} {maxL : Nat} {ret : Option FieldType} {rm : Room} (hown : s.vm.findClass own = some m.cls) (w1 : (Jvm.Cond.methodLink own index y).before a0 Z = true) (w2 : (Jvm.Cond.static y).before a0 Z = true) (w3 : (Jvm.Cond.initialized y.cls).before a0 Z = true) (w4 : (Jvm.Cond.code y bytes maxL ret).before a0 Z = true) (hy : y.cls ≠ "java/lang/invoke/MethodHandle" ∧ y.cls ≠ "java/lang/invoke/VarHandle") (eT : T.heap = h)
    {argsL rest : List Value} {Q' : Option Value → Heap → List Loc → Prop} (hM : Does l Z y bytes maxL ret [] rm argsL.toArray h Q') (W : Nat) (hf : rm.frames + 1 ≤ R.frames) (hl : W + (maxL + 11) + rm.locals ≤ R.locals) (hc : cells + rm.cells ≤ R.cells) (hs : slots + rm.slots ≤ R.slots) (hsize : Ls.size = c.maxLocals) (hlen : ∀ sig, parseMethodDescriptor y.desc = some sig → argsL.length = sig.parameters.length) (hst : st = argsL.reverse ++ rest) (hW : (rest.map fun v => v.category).sum ≤ W) (hd : decode c.code pc = .ok (.invokestatic index, 3)) (hn : pc + 3 = n)
    (k : ∀ v T' L', Stand p l e R s m args below meth c T' (locs ++ L') (cells + rm.cells) (slots + rm.slots) → Q' v T'.heap L' → Goes p e below s Q K N (T'.setTop (mkF m n Ls (v.toList ++ rest)))) : Goes p e below s Q K N (T.setTop (mkF m pc Ls st)) := by
  subst hn
  obtain ⟨v, _, ⟨T', L, kk, nn⟩, -, X', ⟨Lc, hQ, l', y', z'⟩, st'⟩ := Jvm.LawKit.callS X hx (y := y) hown (mvT hZ w1) (mvT hZ w2) (mvT hZ w3) (mvT hZ w4) hy (backOf (W := W) hM hZ w4 w3 hf hl) (g := mkF m pc Ls st) rfl hsize (argsL := argsL) (rest := rest) hlen hst (by show 2 * 0 + _ ≤ _; omega) hd (fun _ _ => ⟨rfl, eT, hc, hs⟩)
  dsimp only [Pt.U, Pt.locs, Pt.cells, Pt.slots] at X' l' y' z' st' hQ
  subst l' y' z'
  exact (k v T' Lc X' hQ).via st'
theorem o_callN (X : Stand p l e R s m args below meth c T locs cells slots) (hx : p.tables.exec = Jvm.exec) (hZ : Z.Warmed39 s.vm) {own : String} {index : Nat} {y : MethodName} {bytes : ByteArray} {maxL : Nat} {rm : Room} (hy1 : y.name = "<init>") (hown : s.vm.findClass own = some m.cls) (w1 : (Jvm.Cond.methodLink own index y).before a0 Z = true) (w2 : (Jvm.Cond.instanceMethod y).before a0 Z = true) (w3 : (Jvm.Cond.initialized y.cls).before a0 Z = true) (w4 : (Jvm.Cond.code y bytes maxL none).before a0 Z = true) (hy : y.cls ≠ "java/lang/invoke/MethodHandle" ∧ y.cls ≠ "java/lang/invoke/VarHandle") (eT : T.heap = h)
    {a : Addr} {argsL rest : List Value} {Q' : Option Value → Heap → List Loc → Prop} (hM : Does l Z y bytes maxL none [] rm (.ref a :: argsL).toArray h Q') (W : Nat) (hf : rm.frames + 1 ≤ R.frames) (hl : W + (maxL + 11) + rm.locals ≤ R.locals) (hc : cells + rm.cells ≤ R.cells) (hs : slots + rm.slots ≤ R.slots) (hsize : Ls.size = c.maxLocals) (hlen : ∀ sig, parseMethodDescriptor y.desc = some sig → argsL.length = sig.parameters.length) (hst : st = argsL.reverse ++ .ref a :: rest) (hW : (rest.map fun v => v.category).sum ≤ W) (hd : decode c.code pc = .ok (.invokespecial index, 3)) (hn : pc + 3 = n)
    (k : ∀ v T' L', Stand p l e R s m args below meth c T' (locs ++ L') (cells + rm.cells) (slots + rm.slots) → Q' v T'.heap L' → Goes p e below s Q K N (T'.setTop (mkF m n Ls (v.toList ++ rest)))) : Goes p e below s Q K N (T.setTop (mkF m pc Ls st)) := by
  subst hn
  obtain ⟨v, _, ⟨T', L, kk, nn⟩, -, X', ⟨Lc, hQ, l', y', z'⟩, st'⟩ := X.specialBack hx (y := y) hy1 hown (mvT hZ w1) (mvT hZ w2) (mvT hZ w4) hy (backOf (W := W) hM hZ w4 w3 hf hl) (g := mkF m pc Ls st) rfl hsize (Steps.refl _) (a := a) (argsL := argsL) (rest := rest) hlen hst (by show 2 * 0 + _ ≤ _; omega) hd (fun _ _ => ⟨rfl, eT, hc, hs⟩)
  dsimp only [Pt.U, Pt.locs, Pt.cells, Pt.slots] at X' l' y' z' st' hQ
  subst l' y' z'
  exact (k v T' Lc X' hQ).via fun t q => st'.trans q
theorem o_callV (X : Stand p l e R s m args below meth c T locs cells slots) (hx : p.tables.exec = Jvm.exec) (hZ : Z.Warmed39 s.vm) {own C : String} {index : Nat} {y : MethodName} {bytes : ByteArray} {maxL : Nat} {ret : Option FieldType} {rm : Room} (hown : s.vm.findClass own = some m.cls) (w1 : (Jvm.Cond.methodLink own index y).before a0 Z = true) (w2 : (Jvm.Cond.declares y).before a0 Z = true) (w5 : (Jvm.Cond.selects C y y).before a0 Z = true) (w6 : (Jvm.Cond.instanceMethod y).before a0 Z = true) (w3 : (Jvm.Cond.initialized y.cls).before a0 Z = true) (w4 : (Jvm.Cond.code y bytes maxL ret).before a0 Z = true) (hy : y.cls ≠ "java/lang/invoke/MethodHandle" ∧ y.cls ≠ "java/lang/invoke/VarHandle") (eT : T.heap = h)
    {a : Addr} (E : Exa Z h a C) {argsL rest : List Value} {Q' : Option Value → Heap → List Loc → Prop} (hM : Does l Z y bytes maxL ret [] rm (.ref a :: argsL).toArray h Q') (W : Nat) (hf : rm.frames + 1 ≤ R.frames) (hl : W + (maxL + 11) + rm.locals ≤ R.locals) (hc : cells + rm.cells ≤ R.cells) (hs : slots + rm.slots ≤ R.slots) (hsize : Ls.size = c.maxLocals) (hlen : ∀ sig, parseMethodDescriptor y.desc = some sig → argsL.length = sig.parameters.length) (hst : st = argsL.reverse ++ .ref a :: rest) (hW : (rest.map fun v => v.category).sum ≤ W) (hd : decode c.code pc = .ok (.invokevirtual index, 3)) (hn : pc + 3 = n)
    (k : ∀ v T' L', Stand p l e R s m args below meth c T' (locs ++ L') (cells + rm.cells) (slots + rm.slots) → Q' v T'.heap L' → Goes p e below s Q K N (T'.setTop (mkF m n Ls (v.toList ++ rest)))) : Goes p e below s Q K N (T.setTop (mkF m pc Ls st)) := by
  subst hn
  obtain ⟨cq, kq, qa, qb, qc⟩ := isOf hZ eT E
  obtain ⟨v, _, ⟨T', L, kk, nn⟩, -, X', ⟨Lc, hQ, l', y', z'⟩, st'⟩ := X.virtualBack hx (y := y) (z := y) hown (mvT hZ w1) (mvT hZ w2) (notFace_of_selects (args := #[]) (mvT hZ w5)) (mvT hZ w5) (mvT hZ w6) hy (backOf (W := W) hM hZ w4 w3 hf hl) qa qc (g := mkF m pc Ls st) rfl hsize (Steps.refl _) (argsL := argsL) (rest := rest) hlen hst (by show 2 * 0 + _ ≤ _; omega) hd (fun _ _ => ⟨rfl, eT, hc, hs⟩)
  dsimp only [Pt.U, Pt.locs, Pt.cells, Pt.slots] at X' l' y' z' st' hQ
  subst l' y' z'
  exact (k v T' Lc X' hQ).via fun t q => st'.trans q
/-- a private method is the one that is selected -/
theorem o_selpriv {y : MethodName} {kk : Nat} (hy : y.cls ≠ "java/lang/invoke/MethodHandle" ∧ y.cls ≠ "java/lang/invoke/VarHandle") (hins : (Jvm.Cond.instantiable y.cls kk).before args s = true) (hpriv : (Jvm.Cond.privateMethod y).before args s = true) (hinst : (Jvm.Cond.instanceMethod y).before args s = true) : (Jvm.Cond.selects y.cls y y).before args s = true := by
  obtain ⟨c, k, hc, hk, -, hniab, -, -⟩ := Cond.instantiable_spec hins
  have hni : k.isInterface = false := (Bool.or_eq_false_iff.mp hniab).1
  obtain ⟨mk, methM, hnamed, hmethM, -, -⟩ := Cond.instanceMethod_spec hinst
  have hfound : s.methodFound? y.cls y.name y.desc = some mk := State.methodFound?_of_named hnamed hy
  have hcls : mk.cls = c := Option.some.inj ((findClass_of_methodNamed hnamed).symm.trans hc)
  have hsel : selectMethod {} s.vm c mk = .method mk := selectMethod_private hmethM (Cond.privateMethod_at hpriv mk methM hnamed hmethM)
  simp only [Cond.before, Cond.holds, Cond.value, hc, hfound, hnamed, hsel, hcls, hk]
  simp; exact hni
theorem o_callP (X : Stand p l e R s m args below meth c T locs cells slots) (hx : p.tables.exec = Jvm.exec) (hZ : Z.Warmed39 s.vm) {own C : String} {index kk : Nat} {y : MethodName} {bytes : ByteArray} {maxL : Nat} {ret : Option FieldType} {rm : Room} (hown : s.vm.findClass own = some m.cls) (w1 : (Jvm.Cond.methodLink own index y).before a0 Z = true) (w6 : (Jvm.Cond.instanceMethod y).before a0 Z = true) (w5 : (Jvm.Cond.privateMethod y).before a0 Z = true) (wi : (Jvm.Cond.instantiable y.cls kk).before a0 Z = true) (w3 : (Jvm.Cond.initialized y.cls).before a0 Z = true) (w4 : (Jvm.Cond.code y bytes maxL ret).before a0 Z = true) (hy : y.cls ≠ "java/lang/invoke/MethodHandle" ∧ y.cls ≠ "java/lang/invoke/VarHandle") (eT : T.heap = h)
    {a : Addr} (E : Exa Z h a C) {argsL rest : List Value} {Q' : Option Value → Heap → List Loc → Prop} (hM : Does l Z y bytes maxL ret [] rm (.ref a :: argsL).toArray h Q') (W : Nat) (hf : rm.frames + 1 ≤ R.frames) (hl : W + (maxL + 11) + rm.locals ≤ R.locals) (hc : cells + rm.cells ≤ R.cells) (hs : slots + rm.slots ≤ R.slots) (hsize : Ls.size = c.maxLocals) (hlen : ∀ sig, parseMethodDescriptor y.desc = some sig → argsL.length = sig.parameters.length) (hst : st = argsL.reverse ++ .ref a :: rest) (hW : (rest.map fun v => v.category).sum ≤ W) (hd : decode c.code pc = .ok (.invokevirtual index, 3)) (hn : pc + 3 = n)
    (k : ∀ v T' L', Stand p l e R s m args below meth c T' (locs ++ L') (cells + rm.cells) (slots + rm.slots) → Q' v T'.heap L' → Goes p e below s Q K N (T'.setTop (mkF m n Ls (v.toList ++ rest)))) : Goes p e below s Q K N (T.setTop (mkF m pc Ls st)) := by
  subst hn
  obtain ⟨cl, hcl, hob⟩ := E.cell
  obtain ⟨v, _, ⟨T', L, kk, nn⟩, -, X', ⟨Lc, hQ, l', y', z'⟩, st'⟩ := X.privateBack hx (y := y) hown (mvT hZ w1) (mvT hZ w6) (o_selpriv hy (mvT hZ wi) (mvP hZ w5) (mvT hZ w6)) (Cond.privateMethod_at (mvP hZ w5 (args := #[]))) (mvT hZ w4) hy (backOf (W := W) hM hZ w4 w3 hf hl) (g := mkF m pc Ls st) rfl hsize (Steps.refl _) (a := a) (by rw [eT]; exact hcl) hob (argsL := argsL) (rest := rest) hlen hst (by show 2 * 0 + _ ≤ _; omega) hd (fun _ _ => ⟨rfl, eT, hc, hs⟩)
  dsimp only [Pt.U, Pt.locs, Pt.cells, Pt.slots] at X' l' y' z' st' hQ
  subst l' y' z'
  exact (k v T' Lc X' hQ).via fun t q => st'.trans q
/-! returns -/
theorem o_retW (X : Stand p l e R s m args below meth c T locs cells slots) (hx : p.tables.exec = Jvm.exec) {t : FieldType} {w : Value} {i : Instr} (hret : meth.sig.returnType = some t) (hlk : meth.locks = false) (hnw : narrow t w = w)
    (hi : (i = .ireturn ∧ (t = .int ∨ t = .boolean ∨ t = .byte ∨ t = .char ∨ t = .short) ∧ ∃ z, w = .int z) ∨ (i = .lreturn ∧ t = .long ∧ ∃ z, w = .long z) ∨ (i = .dreturn ∧ t = .double ∧ ∃ z, w = .double z) ∨ (i = .freturn ∧ t = .float ∧ ∃ z, w = .float z) ∨ (i = .areturn ∧ t.isReference = true ∧ w.isRef = true))
    (hd : decode c.code pc = .ok (i, 1)) (hc : cells ≤ K) (hs : slots ≤ N) (eT : T.heap = h) (hQ : Q (some w) h locs) : Goes p e below s Q K N (T.setTop (mkF m pc Ls (w :: rest))) := by
  subst eT
  obtain ⟨fs, hr, hrun, hended, hW, hsame⟩ := X.leave (v := some w) (fun q => by rw [hret] at q; cases q) hlk
  exact ⟨_, _, retOut X hx hret hnw hi hd hr, hrun, hended, _, _, rfl, hQ, ⟨_, rfl⟩, hW, hsame.mono hc hs⟩
theorem o_ireturn (X : Stand p l e R s m args below meth c T locs cells slots) (hx : p.tables.exec = Jvm.exec) {x : Int32} (hret : meth.sig.returnType = some .int) (hlk : meth.locks = false) (hd : decode c.code pc = .ok (.ireturn, 1)) (hc : cells ≤ K) (hs : slots ≤ N) (eT : T.heap = h) (hQ : Q (some (.int x)) h locs) : Goes p e below s Q K N (T.setTop (mkF m pc Ls (.int x :: rest))) := o_retW X hx hret hlk rfl (Or.inl ⟨rfl, Or.inl rfl, x, rfl⟩) hd hc hs eT hQ
theorem o_lreturn (X : Stand p l e R s m args below meth c T locs cells slots) (hx : p.tables.exec = Jvm.exec) {x : Int64} (hret : meth.sig.returnType = some .long) (hlk : meth.locks = false) (hd : decode c.code pc = .ok (.lreturn, 1)) (hc : cells ≤ K) (hs : slots ≤ N) (eT : T.heap = h) (hQ : Q (some (.long x)) h locs) : Goes p e below s Q K N (T.setTop (mkF m pc Ls (.long x :: rest))) := o_retW X hx hret hlk rfl (Or.inr (Or.inl ⟨rfl, rfl, x, rfl⟩)) hd hc hs eT hQ
theorem o_areturn (X : Stand p l e R s m args below meth c T locs cells slots) (hx : p.tables.exec = Jvm.exec) {t : FieldType} {w : Value} (hret : meth.sig.returnType = some t) (hlk : meth.locks = false) (ht : t.isReference = true) (hw : w.isRef = true) (hd : decode c.code pc = .ok (.areturn, 1)) (hc : cells ≤ K) (hs : slots ≤ N) (eT : T.heap = h) (hQ : Q (some w) h locs) : Goes p e below s Q K N (T.setTop (mkF m pc Ls (w :: rest))) := o_retW X hx hret hlk (by cases t <;> first | rfl | cases ht) (Or.inr (Or.inr (Or.inr (Or.inr ⟨rfl, ht, hw⟩)))) hd hc hs eT hQ
/-- a boolean, byte, char or short: narrowed -/
theorem o_nreturn (X : Stand p l e R s m args below meth c T locs cells slots) (hx : p.tables.exec = Jvm.exec) {t : FieldType} {x : Int32} (hret : meth.sig.returnType = some t) (hlk : meth.locks = false) (ht : t = .boolean ∨ t = .byte ∨ t = .char ∨ t = .short) (hd : decode c.code pc = .ok (.ireturn, 1)) (hc : cells ≤ K) (hs : slots ≤ N) (eT : T.heap = h) (hQ : Q (some (.int (nar t x))) h locs) : Goes p e below s Q K N (T.setTop (mkF m pc Ls (.int x :: rest))) := by
  subst eT
  obtain ⟨fs, hr, hrun, hended, hW, hsame⟩ := X.leave (v := some (.int (nar t x))) (fun q => by rw [hret] at q; cases q) hlk
  exact ⟨_, _, retN X hx hret ht hd hr, hrun, hended, _, _, rfl, hQ, ⟨_, rfl⟩, hW, hsame.mono hc hs⟩
theorem o_return (X : Stand p l e R s m args below meth c T locs cells slots) (hx : p.tables.exec = Jvm.exec) (hret : meth.sig.returnType = none) (hlk : meth.locks = false) (hd : decode c.code pc = .ok (.return_, 1)) (hc : cells ≤ K) (hs : slots ≤ N) (eT : T.heap = h) (hQ : Q none h locs) : Goes p e below s Q K N (T.setTop (mkF m pc Ls [])) := by
  subst eT
  obtain ⟨fs, hr, hrun, hended, hW, hsame⟩ := X.leave (v := none) (fun _ => rfl) hlk
  exact ⟨_, _, X.returnOut hx hret hd hr, hrun, hended, _, _, rfl, hQ, ⟨_, rfl⟩, hW, hsame.mono hc hs⟩
/-- what a call that writes nothing promises -/
def Pur (h0 : Heap) (w : Value) (v : Option Value) (h : Heap) (L : List Loc) : Prop := v = some w ∧ h = h0 ∧ L = []
end Layer

theorem o_nz1 : nar .boolean (1 : Int32) = 1 := by decide
theorem o_nz0 : nar .boolean (0 : Int32) = 0 := by decide
theorem o_nar8 (x : Int32) : nar .byte x.toInt8.toInt32 = x.toInt8.toInt32 := by simp [nar]
def n32 (n : Nat) : Int32 := Int32.ofNat n
theorem o_ni {n : Nat} (h : n < 2147483648) : (n32 n).toInt = n := Int32.toInt_ofNat_of_lt (by omega)
theorem o_nt {n : Nat} (h : n < 2147483648) : (n32 n).toNatClampNeg = n := by rw [Int32.toNatClampNeg, o_ni h]; rfl
theorem o_n0 {n : Nat} (h : n < 2147483648) : ¬ n32 n < 0 := by rw [Int32.lt_iff_toInt_lt, o_ni h, show (0 : Int32).toInt = 0 from rfl]; omega
theorem o_nlt {a b : Nat} (ha : a < 2147483648) (hb : b < 2147483648) : n32 a < n32 b ↔ a < b := by rw [Int32.lt_iff_toInt_lt, o_ni ha, o_ni hb]; omega
theorem o_neq {a b : Nat} (ha : a < 2147483648) (hb : b < 2147483648) : n32 a = n32 b ↔ a = b := by rw [← Int32.toInt_inj, o_ni ha, o_ni hb]; omega
theorem o_nadd (a b : Nat) : n32 a + n32 b = n32 (a + b) := (Int32.ofNat_add a b).symm
theorem o_nsub {a b : Nat} (h : b ≤ a) (ha : a < 2147483648) : n32 a - n32 b = n32 (a - b) := by
  apply Int32.toInt_inj.mp
  have e := c_isub (n32 a) (n32 b)
  rw [o_ni ha, o_ni (by omega)] at e
  rw [o_ni (by omega)]
  have r1 := Int32.le_toInt (n32 a - n32 b); have r2 := Int32.toInt_lt (n32 a - n32 b)
  generalize (n32 a - n32 b).toInt = P at *
  omega
/-! shifts by an int's low six bits, masks -/
def o_shl (x : Int64) (y : Int32) : Int64 := x <<< (y &&& 0x3f).toInt64
def o_shr (x : Int64) (y : Int32) : Int64 := (x.toUInt64 >>> (y &&& 0x3f).toInt64.toUInt64).toInt64
def o_bit (x : Int64) (i : Nat) : Bool := x.toBitVec.getLsbD i
theorem o_bext {x y : Int64} (h : ∀ i, i < 64 → o_bit x i = o_bit y i) : x = y := Int64.toBitVec_inj.mp (BitVec.eq_of_getLsbD_eq fun i hi => h i hi)
theorem o_band (x y : Int64) (i : Nat) : o_bit (x &&& y) i = (o_bit x i && o_bit y i) := BitVec.getLsbD_and
theorem o_bor (x y : Int64) (i : Nat) : o_bit (x ||| y) i = (o_bit x i || o_bit y i) := BitVec.getLsbD_or
theorem o_bge (x : Int64) {i : Nat} (h : 64 ≤ i) : o_bit x i = false := BitVec.getLsbD_of_ge _ _ h
theorem o_b0 (i : Nat) : o_bit 0 i = false := by
  show (0#64).getLsbD i = false
  simp
theorem o_six : ∀ k : Fin 64, ((n32 k) &&& 0x3f).toInt64 = Int64.ofNat k := by decide +kernel
theorem o_smod : ∀ k : Fin 64, (Int64.ofNat k).toBitVec.smod 64#64 = BitVec.ofNat 64 k := by decide +kernel
theorem o_umod : ∀ k : Fin 64, ((Int64.ofNat k).toUInt64.toBitVec % 64#64) = BitVec.ofNat 64 k := by decide +kernel
theorem o_bshl (x : Int64) {k : Nat} (hk : k < 64) (i : Nat) : o_bit (o_shl x (n32 k)) i = (decide (i < 64) && (!decide (i < k) && o_bit x (i - k))) := by
  unfold o_shl
  rw [o_six ⟨k, hk⟩]
  show (x.toBitVec <<< ((Int64.ofNat k).toBitVec.smod 64#64)).getLsbD i = _
  rw [o_smod ⟨k, hk⟩]
  rw [BitVec.shiftLeft_eq', BitVec.getLsbD_shiftLeft, BitVec.toNat_ofNat, Nat.mod_eq_of_lt (by show k < 2 ^ 64; omega)]
  simp only [Bool.and_assoc]; rfl
theorem o_bshr (x : Int64) {k : Nat} (hk : k < 64) (i : Nat) : o_bit (o_shr x (n32 k)) i = o_bit x (k + i) := by
  unfold o_shr
  rw [o_six ⟨k, hk⟩]
  show (x.toBitVec >>> ((Int64.ofNat k).toUInt64.toBitVec % 64#64)).getLsbD i = _
  rw [o_umod ⟨k, hk⟩]
  rw [BitVec.ushiftRight_eq', BitVec.getLsbD_ushiftRight, BitVec.toNat_ofNat, Nat.mod_eq_of_lt (by show k < 2 ^ 64; omega)]; rfl
def o_mk (w : Int32) : Int64 := o_shr (-1) (64 - w)
theorem o_mkbit : ∀ (w : Fin 64) (i : Fin 64), o_bit (o_mk (n32 (w.val + 1))) i = decide (i.val < w.val + 1) := by decide +kernel
theorem o_bmk {w : Nat} (h1 : 1 ≤ w) (h2 : w ≤ 64) (i : Nat) : o_bit (o_mk (n32 w)) i = decide (i < w) := by
  by_cases q : i < 64
  · have := o_mkbit ⟨w - 1, by omega⟩ ⟨i, q⟩
    simp only [Nat.sub_add_cancel h1] at this
    exact this
  · rw [o_bge _ (by omega)]
    simp; omega
/-! the layout's content -/
abbrev o_P := Nat × Nat × Nat × Nat × Nat
abbrev o_P.pl (q : o_P) : Nat := q.1
abbrev o_P.lo (q : o_P) : Nat := q.2.1
abbrev o_P.wd (q : o_P) : Nat := q.2.2.1
abbrev o_P.wo (q : o_P) : Nat := q.2.2.2.1
abbrev o_P.sh (q : o_P) : Nat := q.2.2.2.2
abbrev o_C := Nat × Nat × (List o_P) × (List Int32) × (List Nat)
abbrev o_C.b0 (q : o_C) : Nat := q.1
abbrev o_C.b1 (q : o_C) : Nat := q.2.1
abbrev o_C.P (q : o_C) : List o_P := q.2.2.1
abbrev o_C.xs (q : o_C) : List Int32 := q.2.2.2.1
abbrev o_C.ts (q : o_C) : List Nat := q.2.2.2.2
def o_ffk (ts : List Nat) (w i : Nat) : Nat → Nat
  | 0 => i
  | k + 1 => if ts.getD i 0 + w ≤ 64 then i else o_ffk ts w (i + 1) k
def o_ff (ts : List Nat) (w : Nat) : Nat := o_ffk ts w 0 ts.length
def o_ts1 (ts : List Nat) (j : Nat) : List Nat := if j < ts.length then ts else ts ++ [0]
def o_ts (ts : List Nat) (w : Nat) : List Nat := (o_ts1 ts (o_ff ts w)).set (o_ff ts w) (ts.getD (o_ff ts w) 0 + w)
def o_pc (C : o_C) (pl lo wd : Nat) : o_P := ⟨pl, lo, wd, o_ff C.ts wd, C.ts.getD (o_ff C.ts wd) 0⟩
def o_add (C : o_C) (pl lo wd : Nat) : o_C := ⟨C.b0, C.b1, C.P ++ [o_pc C pl lo wd], C.xs ++ [0], o_ts C.ts wd⟩
theorem o_ffk_le (ts : List Nat) (w : Nat) : ∀ k i, i ≤ o_ffk ts w i k ∧ o_ffk ts w i k ≤ i + k ∧ (o_ffk ts w i k < i + k → ts.getD (o_ffk ts w i k) 0 + w ≤ 64)
  | 0, i => ⟨Nat.le_refl _, Nat.le_refl _, fun h => absurd h (Nat.lt_irrefl _)⟩
  | k + 1, i => by
    unfold o_ffk
    split
    · exact ⟨Nat.le_refl _, by omega, fun _ => by assumption⟩
    · have := o_ffk_le ts w k (i + 1)
      refine ⟨by omega, by omega, fun h => this.2.2 (by omega)⟩
theorem o_ff_le (ts : List Nat) (w : Nat) : o_ff ts w ≤ ts.length ∧ (o_ff ts w < ts.length → ts.getD (o_ff ts w) 0 + w ≤ 64) := by
  have := o_ffk_le ts w ts.length 0
  unfold o_ff
  exact ⟨by omega, fun h => this.2.2 (by omega)⟩
theorem o_tslen (ts : List Nat) (w : Nat) : (o_ts ts w).length = if o_ff ts w < ts.length then ts.length else ts.length + 1 := by
  unfold o_ts o_ts1
  rw [List.length_set]
  split <;> simp
/-- what holds of a layout's content -/
abbrev o_Inv (C : o_C) : Prop :=
  (C.xs.length = C.P.length) ∧
  (C.ts.length ≤ C.P.length) ∧
  (∀ w, C.ts.getD w 0 ≤ 64) ∧
  (∀ q ∈ C.P, q.wo < C.ts.length ∧ q.sh + q.wd ≤ C.ts.getD q.wo 0 ∧ 1 ≤ q.wd) ∧
  (∀ q ∈ C.P, q.lo + q.wd ≤ 64 ∧ q.pl < 2) ∧
  (∀ q ∈ C.P, ∀ r ∈ C.P, q ≠ r → q.wo ≠ r.wo ∨ q.sh + q.wd ≤ r.sh ∨ r.sh + r.wd ≤ q.sh)
theorem o_Inv.len {C : o_C} (q_ : o_Inv C ) : C.xs.length = C.P.length := q_.1
theorem o_Inv.tl {C : o_C} (q_ : o_Inv C ) : C.ts.length ≤ C.P.length := q_.2.1
theorem o_Inv.top {C : o_C} (q_ : o_Inv C ) : ∀ w, C.ts.getD w 0 ≤ 64 := q_.2.2.1
theorem o_Inv.fld {C : o_C} (q_ : o_Inv C ) : ∀ q ∈ C.P, q.wo < C.ts.length ∧ q.sh + q.wd ≤ C.ts.getD q.wo 0 ∧ 1 ≤ q.wd := q_.2.2.2.1
theorem o_Inv.lo {C : o_C} (q_ : o_Inv C ) : ∀ q ∈ C.P, q.lo + q.wd ≤ 64 ∧ q.pl < 2 := q_.2.2.2.2.1
theorem o_Inv.dis {C : o_C} (q_ : o_Inv C ) : ∀ q ∈ C.P, ∀ r ∈ C.P, q ≠ r → q.wo ≠ r.wo ∨ q.sh + q.wd ≤ r.sh ∨ r.sh + r.wd ≤ q.sh := q_.2.2.2.2.2
theorem o_ts_get (ts : List Nat) (w v : Nat) (h1 : w ≤ 64) (hw : ∀ v, ts.getD v 0 ≤ 64) : ts.getD v 0 ≤ (o_ts ts w).getD v 0 ∧ (o_ts ts w).getD v 0 ≤ 64 ∧ (v = o_ff ts w → (o_ts ts w).getD v 0 = ts.getD v 0 + w) ∧ (v ≠ o_ff ts w → (o_ts ts w).getD v 0 = ts.getD v 0) := by
  have hj := o_ff_le ts w
  have len1 : o_ff ts w < (o_ts1 ts (o_ff ts w)).length := by unfold o_ts1; split <;> simp_all <;> omega
  have get1 : ∀ u, (o_ts1 ts (o_ff ts w)).getD u 0 = ts.getD u 0 := fun u => by
    unfold o_ts1
    split
    · rfl
    · simp only [List.getD_eq_getElem?_getD, List.getElem?_append]
      split
      · rfl
      · rename_i q
        rw [List.getElem?_eq_none (l := ts) (by omega)]
        cases u - ts.length <;> simp
  have key : ∀ u, (o_ts ts w).getD u 0 = if u = o_ff ts w then ts.getD u 0 + w else ts.getD u 0 := fun u => by
    unfold o_ts
    by_cases q : u = o_ff ts w
    · subst q
      rw [if_pos rfl, List.getD_eq_getElem?_getD, List.getElem?_set_self len1]; rfl
    · rw [if_neg q, List.getD_eq_getElem?_getD, List.getElem?_set_ne (Ne.symm q), ← List.getD_eq_getElem?_getD]
      exact get1 u
  have hv := key v
  have := hw v
  refine ⟨by rw [hv]; split <;> omega, ?_, fun q => by rw [hv, if_pos q], fun q => by rw [hv, if_neg q]⟩
  rw [hv]
  split
  · rename_i q
    subst q
    by_cases r : o_ff ts w < ts.length
    · exact hj.2 r
    · rw [List.getD_eq_getElem?_getD, List.getElem?_eq_none (by omega)]
      show 0 + w ≤ 64
      omega
  · exact this
theorem o_Inv.add {C : o_C} (I : o_Inv C) (pl lo wd : Nat) (h1 : 1 ≤ wd) (h2 : lo + wd ≤ 64) (h3 : pl < 2) : o_Inv (o_add C pl lo wd) := by
  have hj := o_ff_le C.ts wd
  have hl := o_tslen C.ts wd
  have hg := fun v => o_ts_get C.ts wd v (by omega) I.top
  have flds : ∀ q ∈ C.P, q.wo < (o_ts C.ts wd).length ∧ q.sh + q.wd ≤ (o_ts C.ts wd).getD q.wo 0 ∧ 1 ≤ q.wd := fun q hq => by
    have a := I.fld q hq
    have b := hg q.wo
    refine ⟨?_, by omega, a.2.2⟩
    rw [hl]; split <;> omega
  have new : (o_pc C pl lo wd).wo < (o_ts C.ts wd).length ∧ (o_pc C pl lo wd).sh + (o_pc C pl lo wd).wd ≤ (o_ts C.ts wd).getD (o_pc C pl lo wd).wo 0 ∧ 1 ≤ (o_pc C pl lo wd).wd := by
    have b := (hg (o_ff C.ts wd)).2.2.1 rfl
    refine ⟨?_, ?_, h1⟩
    · show o_ff C.ts wd < _
      rw [hl]; split <;> omega
    · show C.ts.getD (o_ff C.ts wd) 0 + wd ≤ (o_ts C.ts wd).getD (o_ff C.ts wd) 0
      omega
  have dn : ∀ q ∈ C.P, q.wo ≠ (o_pc C pl lo wd).wo ∨ q.sh + q.wd ≤ (o_pc C pl lo wd).sh := fun q hq => by
    have a := I.fld q hq
    by_cases e : q.wo = (o_pc C pl lo wd).wo
    · right
      have : (o_pc C pl lo wd).sh = C.ts.getD (o_pc C pl lo wd).wo 0 := rfl
      rw [this, ← e]; exact a.2.1
    · exact Or.inl e
  refine ⟨by show (C.xs ++ [0]).length = (C.P ++ [_]).length; simp only [List.length_append, List.length_singleton, I.len], ?_, fun v => (hg v).2.1, fun q hq => ?_, fun q hq => ?_, fun q hq r hr ne => ?_⟩
  · show (o_ts C.ts wd).length ≤ (C.P ++ [o_pc C pl lo wd]).length
    have := I.tl
    simp only [List.length_append, List.length_singleton]
    rw [hl]
    split <;> omega
  · rcases List.mem_append.mp hq with h | h
    · exact flds q h
    · rw [List.mem_singleton.mp h]; exact new
  · rcases List.mem_append.mp hq with h | h
    · exact I.lo q h
    · rw [List.mem_singleton.mp h]; exact ⟨h2, h3⟩
  · rcases List.mem_append.mp hq with h | h <;> rcases List.mem_append.mp hr with k | k
    · exact I.dis q h r k ne
    · rw [List.mem_singleton.mp k]
      rcases dn q h with z | z
      · exact Or.inl z
      · exact Or.inr (Or.inl z)
    · rw [List.mem_singleton.mp h]
      rcases dn r k with z | z
      · exact Or.inl (Ne.symm z)
      · exact Or.inr (Or.inr z)
    · exact absurd ((List.mem_singleton.mp h).trans (List.mem_singleton.mp k).symm) ne
/-! packing -/
def o_fv (c : Int64) (q : o_P) : Int64 := o_shr c (n32 q.lo) &&& o_mk (n32 q.wd)
def o_cd (m0 m1 : Int64) (p : Nat) : Int64 := (if p = 0 then m0 else m1) + 1
def o_ins (L : List Int64) (q : o_P) (x : Int64) : List Int64 := L.set q.wo (L.getD q.wo 0 ||| o_shl x (n32 q.sh))
def o_z (L : List Int64) : Nat → List Int64
  | 0 => L
  | k + 1 => (o_z L k).set k 0
def o_pkP (P : List o_P) (L : List Int64) (m0 m1 : Int64) : List Int64 := P.foldl (fun L q => o_ins L q (o_fv (o_cd m0 m1 q.pl) q)) L
def o_pk (C : o_C) (L : List Int64) (m0 m1 : Int64) : List Int64 := o_pkP C.P (o_z L C.ts.length) m0 m1
theorem o_zlen (L : List Int64) : ∀ k, (o_z L k).length = L.length
  | 0 => rfl
  | k + 1 => by rw [o_z, List.length_set]; exact o_zlen L k
theorem o_inslen (L : List Int64) (q : o_P) (x : Int64) : (o_ins L q x).length = L.length := List.length_set ..
theorem o_pkPlen (P : List o_P) (L : List Int64) (m0 m1 : Int64) : (o_pkP P L m0 m1).length = L.length := by
  induction P generalizing L with
  | nil => rfl
  | cons q P ih => exact (ih _).trans (o_inslen ..)
theorem o_zget (L : List Int64) : ∀ k w, k ≤ L.length → (o_z L k).getD w 0 = if w < k then 0 else L.getD w 0
  | 0, w, _ => by simp [o_z]
  | k + 1, w, h => by
    rw [o_z, List.getD_eq_getElem?_getD]
    by_cases q : w = k
    · subst q
      rw [List.getElem?_set_self (by rw [o_zlen]; omega), if_pos (by omega)]; rfl
    · rw [List.getElem?_set_ne (Ne.symm q), ← List.getD_eq_getElem?_getD, o_zget L k w (by omega)]
      by_cases r : w < k
      · rw [if_pos r, if_pos (by omega)]
      · rw [if_neg r, if_neg (by omega)]
theorem o_fvbit (c : Int64) (q : o_P) (h : q.lo + q.wd ≤ 64) (h1 : 1 ≤ q.wd) (i : Nat) : o_bit (o_fv c q) i = (decide (i < q.wd) && o_bit c (q.lo + i)) := by
  unfold o_fv
  rw [o_band, o_bshr _ (by omega), o_bmk h1 (by omega), Bool.and_comm]
theorem o_insget (L : List Int64) (q : o_P) (x : Int64) (hw : q.wo < L.length) (v : Nat) : (o_ins L q x).getD v 0 = if v = q.wo then L.getD v 0 ||| o_shl x (n32 q.sh) else L.getD v 0 := by
  unfold o_ins
  rw [List.getD_eq_getElem?_getD]
  by_cases e : v = q.wo
  · subst e; rw [List.getElem?_set_self hw, if_pos rfl]; rfl
  · rw [List.getElem?_set_ne (Ne.symm e), if_neg e, ← List.getD_eq_getElem?_getD]
def o_hit (m0 m1 : Int64) (v i : Nat) (q : o_P) : Bool := decide (v = q.wo) && (decide (q.sh ≤ i) && (decide (i < q.sh + q.wd) && o_bit (o_cd m0 m1 q.pl) (q.lo + (i - q.sh))))
theorem o_pkbit (P : List o_P) (m0 m1 : Int64) (v i : Nat) (hi : i < 64) : ∀ (L : List Int64), (∀ q ∈ P, q.wo < L.length ∧ q.lo + q.wd ≤ 64 ∧ 1 ≤ q.wd ∧ q.sh + q.wd ≤ 64) → o_bit ((o_pkP P L m0 m1).getD v 0) i = (o_bit (L.getD v 0) i || P.any (o_hit m0 m1 v i)) := by
  induction P with
  | nil => intro L _; simp [o_pkP]
  | cons q P ih =>
    intro L h
    obtain ⟨h1, h2, h3, h4⟩ := h q (List.mem_cons_self ..)
    show o_bit ((o_pkP P (o_ins L q (o_fv (o_cd m0 m1 q.pl) q)) m0 m1).getD v 0) i = _
    rw [ih _ (fun r hr => by have := h r (List.mem_cons_of_mem _ hr); rw [o_inslen]; exact this), o_insget _ _ _ h1, List.any_cons, ← Bool.or_assoc]
    congr 1
    by_cases e : v = q.wo
    · rw [if_pos e, o_bor, o_bshl _ (by omega)]
      congr 1
      unfold o_hit
      rw [o_fvbit _ _ h2 h3]
      by_cases a : q.sh ≤ i
      · have e1 : decide (i - q.sh < q.wd) = decide (i < q.sh + q.wd) := by congr 1; apply propext; omega
        simp [hi, e, a, e1, Nat.not_lt.mpr a]
      · simp [hi, e, a, Nat.lt_of_not_le a]
    · rw [if_neg e]
      simp [o_hit, e]
theorem o_any1 {P : List o_P} {f : o_P → Bool} {q : o_P} (hq : q ∈ P) (h : ∀ r ∈ P, r ≠ q → f r = false) : P.any f = f q := by
  cases hf : f q with
  | true => exact List.any_eq_true.mpr ⟨q, hq, hf⟩
  | false =>
    apply List.any_eq_false.mpr
    intro r hr
    by_cases e : r = q
    · rw [e, hf]; decide
    · rw [h r hr e]; decide
def o_ex (x : Int64) (q : o_P) : Int64 := o_shr x (n32 q.sh) &&& o_mk (n32 q.wd)
theorem o_exbit (x : Int64) (q : o_P) (h : q.sh + q.wd ≤ 64) (h1 : 1 ≤ q.wd) (i : Nat) : o_bit (o_ex x q) i = (decide (i < q.wd) && o_bit x (q.sh + i)) := by
  unfold o_ex
  rw [o_band, o_bshr _ (by omega), o_bmk h1 (by omega), Bool.and_comm]
/-- a piece of the layout is read back -/
theorem o_own {C : o_C} (I : o_Inv C) {L : List Int64} (hL : C.ts.length ≤ L.length) (m0 m1 : Int64) {q : o_P} (hq : q ∈ C.P) : o_ex ((o_pk C L m0 m1).getD q.wo 0) q = o_fv (o_cd m0 m1 q.pl) q := by
  have hf := I.fld q hq; have hl := I.lo q hq; have ht := I.top q.wo
  apply o_bext
  intro i hi
  rw [o_exbit _ _ (by omega) hf.2.2, o_fvbit _ _ hl.1 hf.2.2]
  by_cases a : i < q.wd
  · rw [o_pk, o_pkbit _ _ _ _ _ (by omega) _ (fun r hr => by
      have := I.fld r hr; have := I.lo r hr; have := I.top r.wo; rw [o_zlen]; exact ⟨by omega, by omega, by omega, by omega⟩), o_zget _ _ _ hL, if_pos hf.1, o_b0, Bool.false_or, o_any1 hq]
    · simp only [o_hit, a, decide_true, Bool.true_and, Nat.le_add_right, Nat.add_lt_add_iff_left, Nat.add_sub_cancel_left]
    · intro r hr ne
      have hr' := I.fld r hr
      rcases I.dis r hr q hq ne with z | z | z
      · simp [o_hit, Ne.symm z]
      · unfold o_hit
        have : ¬ q.sh + i < r.sh + r.wd := by omega
        simp [this]
      · unfold o_hit
        have : ¬ r.sh ≤ q.sh + i := by omega
        simp [this]
  · simp [a]
/-- what no piece takes is 0 -/
theorem o_free {C : o_C} (I : o_Inv C) {L : List Int64} (hL : C.ts.length ≤ L.length) (m0 m1 : Int64) (q : o_P) (h1 : q.wo < C.ts.length) (h2 : C.ts.getD q.wo 0 ≤ q.sh) (h3 : q.sh + q.wd ≤ 64) (h4 : 1 ≤ q.wd) : o_ex ((o_pk C L m0 m1).getD q.wo 0) q = 0 := by
  apply o_bext
  intro i hi
  rw [o_exbit _ _ h3 h4, o_b0]
  by_cases a : i < q.wd
  · rw [o_pk, o_pkbit _ _ _ _ _ (by omega) _ (fun r hr => by
      have := I.fld r hr; have := I.lo r hr; have := I.top r.wo; rw [o_zlen]; exact ⟨by omega, by omega, by omega, by omega⟩), o_zget _ _ _ hL, if_pos h1, o_b0, Bool.false_or]
    have : C.P.any (o_hit m0 m1 q.wo (q.sh + i)) = false := by
      apply List.any_eq_false.mpr
      intro r hr
      have hr' := I.fld r hr
      by_cases e : q.wo = r.wo
      · have : ¬ q.sh + i < r.sh + r.wd := by rw [e] at h2; omega
        simp [o_hit, this]
      · simp [o_hit, e]
    rw [this]; simp
  · simp [a]

/-! lengths in bits -/
def o_u16 (x : Int32) : Int32 := (x.toUInt32 >>> (16 : UInt32)).toInt32
def o_u8 (x : Int32) : Int32 := (x.toUInt32 >>> (8 : UInt32)).toInt32
def o_u4 (x : Int32) : Int32 := (x.toUInt32 >>> (4 : UInt32)).toInt32
def o_u2 (x : Int32) : Int32 := (x.toUInt32 >>> (2 : UInt32)).toInt32
def o_u1 (x : Int32) : Int32 := (x.toUInt32 >>> (1 : UInt32)).toInt32
def o_nE (x n : Int32) : Int32 := n - o_u1 x
def o_nD (x n : Int32) : Int32 := if x < 4 then o_nE x n else o_nE (o_u2 x) (n + -2)
def o_nC (x n : Int32) : Int32 := if x < 16 then o_nD x n else o_nD (o_u4 x) (n + -4)
def o_nB (x n : Int32) : Int32 := if x < 256 then o_nC x n else o_nC (o_u8 x) (n + -8)
def o_nA (x n : Int32) : Int32 := if x < 65536 then o_nB x n else o_nB (o_u16 x) (n + -16)
def o_nz (x : Int32) : Int32 := if 0 < x then o_nA x 31 else if x = 0 then 32 else 0
def o_nlz (c : Int64) : Int32 := if (c.toUInt64 >>> (32 : UInt64)).toInt64.toInt32 = 0 then 32 + o_nz c.toInt32 else o_nz (c.toUInt64 >>> (32 : UInt64)).toInt64.toInt32
theorem o_uv1 (x : Int32) (h : 0 ≤ x.toInt) : (o_u1 x).toInt = x.toInt / 2 := by
  have a : (o_u1 x).toInt = (x.toInt % 4294967296) / (2 ^ 1 : Nat) := c_iushr x 1 1 (by decide) (by decide)
  have r := Int32.toInt_lt x
  generalize x.toInt = X at *
  omega
theorem o_uv2 (x : Int32) (h : 0 ≤ x.toInt) : (o_u2 x).toInt = x.toInt / 4 := by
  have a : (o_u2 x).toInt = (x.toInt % 4294967296) / (2 ^ 2 : Nat) := c_iushr x 2 2 (by decide) (by decide)
  have r := Int32.toInt_lt x
  generalize x.toInt = X at *
  omega
theorem o_uv4 (x : Int32) (h : 0 ≤ x.toInt) : (o_u4 x).toInt = x.toInt / 16 := by
  have a : (o_u4 x).toInt = (x.toInt % 4294967296) / (2 ^ 4 : Nat) := c_iushr x 4 4 (by decide) (by decide)
  have r := Int32.toInt_lt x
  generalize x.toInt = X at *
  omega
theorem o_uv8 (x : Int32) (h : 0 ≤ x.toInt) : (o_u8 x).toInt = x.toInt / 256 := by
  have a : (o_u8 x).toInt = (x.toInt % 4294967296) / (2 ^ 8 : Nat) := c_iushr x 8 8 (by decide) (by decide)
  have r := Int32.toInt_lt x
  generalize x.toInt = X at *
  omega
theorem o_uv16 (x : Int32) (h : 0 ≤ x.toInt) : (o_u16 x).toInt = x.toInt / 65536 := by
  have a : (o_u16 x).toInt = (x.toInt % 4294967296) / (2 ^ 16 : Nat) := c_iushr x 16 16 (by decide) (by decide)
  have r := Int32.toInt_lt x
  generalize x.toInt = X at *
  omega
def o_Pw (x n r : Int32) (K : Nat) : Prop := ∃ k : Nat, k ≤ K ∧ r = n - n32 k ∧ (2 ^ k : Nat) ≤ x.toInt ∧ x.toInt < (2 ^ (k + 1) : Nat)
theorem o_PwE (x n : Int32) (h1 : 1 ≤ x.toInt) (h2 : x.toInt < 4) : o_Pw x n (o_nE x n) 1 := by
  have a := o_uv1 x (by omega)
  by_cases q : x.toInt = 1
  · refine ⟨0, by omega, ?_, by omega, by omega⟩
    unfold o_nE
    congr 1
    apply Int32.toInt_inj.mp
    rw [a, q]; rfl
  · refine ⟨1, by omega, ?_, by omega, by omega⟩
    unfold o_nE
    congr 1
    apply Int32.toInt_inj.mp
    rw [a, show (n32 1).toInt = 1 from rfl]; omega
theorem o_PwS {x y n m r : Int32} {s K : Nat} (hm : m = n - n32 s) (h : o_Pw y m r K) (hy : y.toInt = x.toInt / (2 ^ s : Nat)) : o_Pw x n r (K + s) := by
  obtain ⟨k, h1, h2, h3, h4⟩ := h
  refine ⟨k + s, by omega, ?_, ?_, ?_⟩
  · rw [h2, hm, show n32 (k + s) = n32 k + n32 s from (o_nadd k s).symm, Int32.sub_sub, Int32.add_comm]
  · rw [hy] at h3
    have := (Int.le_ediv_iff_mul_le (Int.ofNat_lt.mpr (Nat.two_pow_pos s))).mp h3
    rw [Nat.pow_add, Int.natCast_mul]; exact this
  · rw [hy] at h4
    have := (Int.ediv_lt_iff_lt_mul (Int.ofNat_lt.mpr (Nat.two_pow_pos s))).mp h4
    rw [show k + s + 1 = (k + 1) + s by omega, Nat.pow_add, Int.natCast_mul]; exact this
theorem o_lt32 (x : Int32) (k : Nat) (h : k < 2147483648) : x < Int32.ofNat k ↔ x.toInt < k := by
  rw [Int32.lt_iff_toInt_lt, Int32.toInt_ofNat_of_lt (by omega)]
theorem o_PwM {x n r : Int32} {K K' : Nat} (h : o_Pw x n r K) (q : K ≤ K') : o_Pw x n r K' := by
  obtain ⟨k, h1, h⟩ := h
  exact ⟨k, by omega, h⟩
theorem o_PwD (x n : Int32) (h1 : 1 ≤ x.toInt) (h2 : x.toInt < 16) : o_Pw x n (o_nD x n) 3 := by
  unfold o_nD
  by_cases q : x < 4
  · rw [if_pos q]
    exact o_PwM (o_PwE x n h1 ((o_lt32 x 4 (by decide)).mp q)) (by decide)
  · rw [if_neg q]
    have q' : ¬ x.toInt < 4 := fun z => q ((o_lt32 x 4 (by decide)).mpr z)
    have u := o_uv2 x (by omega)
    have r := Int32.toInt_lt x
    exact o_PwS (s := 2) (by rw [show n32 2 = 2 from rfl, Int32.sub_eq_add_neg]) (o_PwE _ _ (by omega) (by omega)) u
theorem o_PwC (x n : Int32) (h1 : 1 ≤ x.toInt) (h2 : x.toInt < 256) : o_Pw x n (o_nC x n) 7 := by
  unfold o_nC
  by_cases q : x < 16
  · rw [if_pos q]
    exact o_PwM (o_PwD x n h1 ((o_lt32 x 16 (by decide)).mp q)) (by decide)
  · rw [if_neg q]
    have q' : ¬ x.toInt < 16 := fun z => q ((o_lt32 x 16 (by decide)).mpr z)
    have u := o_uv4 x (by omega)
    have r := Int32.toInt_lt x
    exact o_PwS (s := 4) (by rw [show n32 4 = 4 from rfl, Int32.sub_eq_add_neg]) (o_PwD _ _ (by omega) (by omega)) u
theorem o_PwB (x n : Int32) (h1 : 1 ≤ x.toInt) (h2 : x.toInt < 65536) : o_Pw x n (o_nB x n) 15 := by
  unfold o_nB
  by_cases q : x < 256
  · rw [if_pos q]
    exact o_PwM (o_PwC x n h1 ((o_lt32 x 256 (by decide)).mp q)) (by decide)
  · rw [if_neg q]
    have q' : ¬ x.toInt < 256 := fun z => q ((o_lt32 x 256 (by decide)).mpr z)
    have u := o_uv8 x (by omega)
    have r := Int32.toInt_lt x
    exact o_PwS (s := 8) (by rw [show n32 8 = 8 from rfl, Int32.sub_eq_add_neg]) (o_PwC _ _ (by omega) (by omega)) u
theorem o_PwA (x n : Int32) (h1 : 1 ≤ x.toInt) : o_Pw x n (o_nA x n) 31 := by
  unfold o_nA
  by_cases q : x < 65536
  · rw [if_pos q]
    exact o_PwM (o_PwB x n h1 ((o_lt32 x 65536 (by decide)).mp q)) (by decide)
  · rw [if_neg q]
    have q' : ¬ x.toInt < 65536 := fun z => q ((o_lt32 x 65536 (by decide)).mpr z)
    have u := o_uv16 x (by omega)
    have r := Int32.toInt_lt x
    exact o_PwS (s := 16) (by rw [show n32 16 = 16 from rfl, Int32.sub_eq_add_neg]) (o_PwB _ _ (by omega) (by omega)) u
theorem o_nzlen (x : Int32) : ∃ k : Nat, k ≤ 32 ∧ o_nz x = n32 (32 - k) ∧ x.toInt % 4294967296 < (2 ^ k : Nat) ∧ (0 < k → (2 ^ (k - 1) : Nat) ≤ x.toInt % 4294967296) := by
  have r1 := Int32.le_toInt x; have r2 := Int32.toInt_lt x
  unfold o_nz
  by_cases q : 0 < x
  · rw [if_pos q]
    rw [Int32.lt_iff_toInt_lt, show (0 : Int32).toInt = 0 from rfl] at q
    obtain ⟨k, h1, h2, h3, h4⟩ := o_PwA x 31 (by omega)
    refine ⟨k + 1, by omega, ?_, ?_, fun _ => ?_⟩
    · rw [h2, show (31 : Int32) = n32 31 from rfl, o_nsub h1 (by decide)]; congr 1; omega
    · generalize (2 ^ (k + 1) : Nat) = B at *; omega
    · rw [Nat.add_sub_cancel]; generalize (2 ^ k : Nat) = B at *; omega
  · rw [if_neg q]
    rw [Int32.lt_iff_toInt_lt, show (0 : Int32).toInt = 0 from rfl] at q
    by_cases z : x = 0
    · rw [if_pos z]
      subst z
      exact ⟨0, by omega, rfl, by decide, fun h => absurd h (by decide)⟩
    · rw [if_neg z]
      have : x.toInt ≠ 0 := fun e => z (Int32.toInt_inj.mp e)
      exact ⟨32, by omega, rfl, by show _ < (4294967296 : Int); omega, fun _ => by show (2147483648 : Int) ≤ _; omega⟩
theorem o_len64 (c : Int64) : ∃ k : Nat, k ≤ 64 ∧ (64 : Int32) - o_nlz c = n32 k ∧ c.toBitVec.toNat < 2 ^ k ∧ (0 < k → 2 ^ (k - 1) ≤ c.toBitVec.toNat) := by
  have e : (c.toBitVec.toNat : Int) = c.toInt % 18446744073709551616 := by
    have h : c.toInt = c.toBitVec.toInt := rfl
    have q := c.toBitVec.isLt
    rw [h, BitVec.toInt_eq_toNat_cond]
    split <;> omega
  have g : ((c.toUInt64 >>> (32 : UInt64)).toInt64).toInt = (c.toInt % 18446744073709551616) / (2 ^ 32 : Nat) := c_lushr c 32 32 (by decide) (by decide)
  have gl := c_l2i (c.toUInt64 >>> (32 : UInt64)).toInt64
  have gc := c_l2i c
  have N0 : (0 : Int) ≤ c.toBitVec.toNat := Int.natCast_nonneg _
  have N1 := c.toBitVec.isLt
  unfold o_nlz
  generalize hh : (c.toUInt64 >>> (32 : UInt64)).toInt64.toInt32 = H at *
  generalize hl : c.toInt32 = L at *
  have rH1 := Int32.le_toInt H; have rH2 := Int32.toInt_lt H
  have rL1 := Int32.le_toInt L; have rL2 := Int32.toInt_lt L
  have hH : H.toInt % 4294967296 = (c.toBitVec.toNat : Int) / 4294967296 := by rw [g] at gl; rw [e]; omega
  have hL : L.toInt % 4294967296 = (c.toBitVec.toNat : Int) % 4294967296 := by rw [e]; omega
  generalize c.toBitVec.toNat = N at *
  by_cases z : H = 0
  · rw [if_pos z]
    obtain ⟨k, h1, h2, h3, h4⟩ := o_nzlen L
    rw [z, show (0 : Int32).toInt = 0 from rfl] at hH
    have hN : N < 4294967296 := by omega
    refine ⟨k, by omega, ?_, ?_, fun q => ?_⟩
    · rw [h2, show (32 : Int32) = n32 32 from rfl, show (64 : Int32) = n32 64 from rfl, o_nadd, o_nsub (by omega) (by decide)]; congr 1; omega
    · generalize (2 ^ k : Nat) = B at *; omega
    · have := h4 q; generalize (2 ^ (k - 1) : Nat) = B at *; omega
  · rw [if_neg z]
    obtain ⟨k, h1, h2, h3, h4⟩ := o_nzlen H
    have hz : H.toInt ≠ 0 := fun e => z (Int32.toInt_inj.mp e)
    have k0 : 0 < k := by
      rcases Nat.eq_zero_or_pos k with e0 | e0
      · subst e0; have : H.toInt % 4294967296 < 1 := h3; omega
      · exact e0
    refine ⟨k + 32, by omega, ?_, ?_, fun _ => ?_⟩
    · rw [h2, show (64 : Int32) = n32 64 from rfl, o_nsub (by omega) (by decide)]; congr 1; omega
    · rw [Nat.pow_add]; generalize (2 ^ k : Nat) = B at *; omega
    · have := h4 k0; rw [show k + 32 - 1 = (k - 1) + 32 by omega, Nat.pow_add]; generalize (2 ^ (k - 1) : Nat) = B at *; omega
/-! widening -/
def o_lim (b : Nat) : Int64 := if b = 0 then 0 else o_mk (n32 b)
def o_cmp (x y : Int64) : Int32 := if x < y then -1 else if x = y then 0 else 1
def o_need (m : Int64) (b : Nat) : Prop := 0 < o_cmp ((m + 1) + (-9223372036854775808)) (o_lim b + (-9223372036854775808))
instance (m : Int64) (b : Nat) : Decidable (o_need m b) := inferInstanceAs (Decidable (_ < _))
def o_wl (c : Int64) : Nat := ((64 : Int32) - o_nlz c).toNatClampNeg
def o_wi (c : Int64) (b : Nat) : Nat := max (o_wl c) (min (2 * b) 64)
def o_bp (C : o_C) (p : Nat) : Nat := if p = 0 then C.b0 else C.b1
def o_up (C : o_C) (p : Nat) (w : Nat) (D : o_C) : o_C := ⟨if p = 0 then w else C.b0, if p = 0 then C.b1 else w, D.P, (D.xs.set C.P.length (D.xs.getD p 0)).set p (n32 C.P.length), D.ts⟩
def o_st (p : Nat) (C : o_C) (m : Int64) : o_C := if o_need m (o_bp C p) then o_up C p (o_wi (m + 1) (o_bp C p)) (o_add C p (o_bp C p) (o_wi (m + 1) (o_bp C p) - o_bp C p)) else C
def o_widen (C : o_C) (m0 m1 : Int64) : o_C := o_st 1 (o_st 0 C m0) m1
theorem o_wl_ok (c : Int64) : o_wl c ≤ 64 ∧ (64 : Int32) - o_nlz c = n32 (o_wl c) ∧ c.toBitVec.toNat < 2 ^ o_wl c := by
  obtain ⟨k, h1, h2, h3, -⟩ := o_len64 c
  have e : o_wl c = k := by unfold o_wl; rw [h2, o_nt (by omega)]
  rw [e]; exact ⟨h1, h2, h3⟩
theorem o_mkN : ∀ w : Fin 64, (o_mk (n32 (w.val + 1))).toBitVec.toNat = 2 ^ (w.val + 1) - 1 := by decide +kernel
theorem o_limN {b : Nat} (h1 : 1 ≤ b) (h2 : b ≤ 64) : (o_lim b).toBitVec.toNat = 2 ^ b - 1 := by
  unfold o_lim
  rw [if_neg (by omega)]
  have := o_mkN ⟨b - 1, by omega⟩
  simp only [Nat.sub_add_cancel h1] at this
  exact this
theorem o_limbit {b : Nat} (h1 : 1 ≤ b) (h2 : b ≤ 64) (i : Nat) : o_bit (o_lim b) i = decide (i < b) := by
  unfold o_lim
  rw [if_neg (by omega)]
  exact o_bmk h1 h2 i
theorem o_flip (x : Int64) : (x + (-9223372036854775808)).toInt = (x.toBitVec.toNat : Int) - 9223372036854775808 := by
  have h : x.toInt = x.toBitVec.toInt := rfl
  have q := x.toBitVec.isLt
  have a := c_ladd x (-9223372036854775808)
  rw [show (-9223372036854775808 : Int64).toInt = -9223372036854775808 from rfl, h, BitVec.toInt_eq_toNat_cond] at a
  have r1 := Int64.le_toInt (x + (-9223372036854775808)); have r2 := Int64.toInt_lt (x + (-9223372036854775808))
  generalize (x + (-9223372036854775808)).toInt = P at *
  generalize x.toBitVec.toNat = N at *
  split at a <;> omega
theorem o_cmp_pos (x y : Int64) : 0 < o_cmp (x + (-9223372036854775808)) (y + (-9223372036854775808)) ↔ y.toBitVec.toNat < x.toBitVec.toNat := by
  have a := o_flip x; have b := o_flip y
  unfold o_cmp
  by_cases q : x + (-9223372036854775808) < y + (-9223372036854775808)
  · rw [if_pos q]
    rw [Int64.lt_iff_toInt_lt, a, b] at q
    exact ⟨fun h => absurd h (by decide), fun h => absurd h (by omega)⟩
  · rw [if_neg q]
    rw [Int64.lt_iff_toInt_lt, a, b] at q
    by_cases r : x + (-9223372036854775808) = y + (-9223372036854775808)
    · rw [if_pos r]
      have := congrArg Int64.toInt r
      rw [a, b] at this
      exact ⟨fun h => absurd h (by decide), fun h => absurd h (by omega)⟩
    · rw [if_neg r]
      have : ¬ (x + (-9223372036854775808)).toInt = (y + (-9223372036854775808)).toInt := fun e => r (Int64.toInt_inj.mp e)
      rw [a, b] at this
      exact ⟨fun _ => by omega, fun _ => by decide⟩
theorem o_need_iff (m : Int64) {b : Nat} (h1 : 1 ≤ b) (h2 : b ≤ 64) : o_need m b ↔ 2 ^ b ≤ (m + 1).toBitVec.toNat := by
  unfold o_need
  rw [o_cmp_pos, o_limN h1 h2]
  have := Nat.two_pow_pos b
  generalize 2 ^ b = B at *
  omega
theorem o_hi0 (c : Int64) {b : Nat} (h : c.toBitVec.toNat < 2 ^ b) (i : Nat) (hi : b ≤ i) : o_bit c i = false := by
  show c.toBitVec.toNat.testBit i = false
  exact Nat.testBit_lt_two_pow (Nat.lt_of_lt_of_le h (Nat.pow_le_pow_right (by decide) hi))
theorem o_wi_ok (m : Int64) {b : Nat} (h1 : 1 ≤ b) (h2 : b ≤ 64) (hn : o_need m b) : b < o_wi (m + 1) b ∧ o_wi (m + 1) b ≤ 64 ∧ (m + 1).toBitVec.toNat < 2 ^ o_wi (m + 1) b := by
  rw [o_need_iff m h1 h2] at hn
  obtain ⟨a1, -, a3⟩ := o_wl_ok (m + 1)
  have a4 : b < o_wl (m + 1) := by
    apply Nat.lt_of_not_le
    intro q
    have := Nat.pow_le_pow_right (show 0 < 2 by decide) q
    omega
  have a5 : o_wl (m + 1) ≤ o_wi (m + 1) b := Nat.le_max_left ..
  have a6 : o_wi (m + 1) b ≤ 64 := Nat.max_le.mpr ⟨a1, Nat.min_le_right ..⟩
  exact ⟨by omega, a6, Nat.lt_of_lt_of_le a3 (Nat.pow_le_pow_right (by decide) a5)⟩
def o_q0 : o_P := ⟨0, 0, 1, 0, 0⟩
def o_q1 : o_P := ⟨1, 0, 1, 0, 1⟩
def o_cv (p i : Nat) (q : o_P) : Bool := decide (q.pl = p) && (decide (q.lo ≤ i) && decide (i < q.lo + q.wd))
abbrev o_Ok (C : o_C) : Prop :=
  (o_Inv C) ∧
  (1 ≤ C.b0 ∧ C.b0 ≤ 64) ∧
  (1 ≤ C.b1 ∧ C.b1 ≤ 64) ∧
  (∀ p i, p < 2 → C.P.any (o_cv p i) = decide (i < o_bp C p)) ∧
  (∃ R, C.P = o_q0 :: o_q1 :: R)
theorem o_Ok.inv {C : o_C} (q_ : o_Ok C ) : o_Inv C := q_.1
theorem o_Ok.b0 {C : o_C} (q_ : o_Ok C ) : 1 ≤ C.b0 ∧ C.b0 ≤ 64 := q_.2.1
theorem o_Ok.b1 {C : o_C} (q_ : o_Ok C ) : 1 ≤ C.b1 ∧ C.b1 ≤ 64 := q_.2.2.1
theorem o_Ok.cov {C : o_C} (q_ : o_Ok C ) : ∀ p i, p < 2 → C.P.any (o_cv p i) = decide (i < o_bp C p) := q_.2.2.2.1
theorem o_Ok.fst {C : o_C} (q_ : o_Ok C ) : ∃ R, C.P = o_q0 :: o_q1 :: R := q_.2.2.2.2
/-- C' came out of C -/
abbrev o_Ext (C C' : o_C) : Prop :=
  (∃ E, C'.P = C.P ++ E ∧ ∀ q ∈ E, o_bp C q.pl ≤ q.lo ∧ (q.wo < C.ts.length → C.ts.getD q.wo 0 ≤ q.sh)) ∧
  (C.ts.length ≤ C'.ts.length) ∧
  (∀ v, C.ts.getD v 0 ≤ C'.ts.getD v 0) ∧
  (∀ p, o_bp C p ≤ o_bp C' p)
theorem o_Ext.ex {C C' : o_C} (q_ : o_Ext C C' ) : ∃ E, C'.P = C.P ++ E ∧ ∀ q ∈ E, o_bp C q.pl ≤ q.lo ∧ (q.wo < C.ts.length → C.ts.getD q.wo 0 ≤ q.sh) := q_.1
theorem o_Ext.tl {C C' : o_C} (q_ : o_Ext C C' ) : C.ts.length ≤ C'.ts.length := q_.2.1
theorem o_Ext.tg {C C' : o_C} (q_ : o_Ext C C' ) : ∀ v, C.ts.getD v 0 ≤ C'.ts.getD v 0 := q_.2.2.1
theorem o_Ext.bb {C C' : o_C} (q_ : o_Ext C C' ) : ∀ p, o_bp C p ≤ o_bp C' p := q_.2.2.2
theorem o_Ext.refl (C : o_C) : o_Ext C C := ⟨⟨[], by simp, fun q h => nomatch h⟩, Nat.le_refl _, fun _ => Nat.le_refl _, fun _ => Nat.le_refl _⟩
theorem o_Ext.trans {A B C : o_C} (h : o_Ext A B) (k : o_Ext B C) : o_Ext A C := by
  obtain ⟨⟨E, e1, e2⟩, h2, h3, h4⟩ := h
  obtain ⟨⟨F, f1, f2⟩, k2, k3, k4⟩ := k
  refine ⟨⟨E ++ F, by rw [f1, e1, List.append_assoc], fun q hq => ?_⟩, Nat.le_trans h2 k2, fun v => Nat.le_trans (h3 v) (k3 v), fun p => Nat.le_trans (h4 p) (k4 p)⟩
  rcases List.mem_append.mp hq with r | r
  · exact e2 q r
  · obtain ⟨a, b⟩ := f2 q r
    exact ⟨Nat.le_trans (h4 _) a, fun w => Nat.le_trans (h3 _) (b (Nat.lt_of_lt_of_le w h2))⟩
theorem o_st_ok {C : o_C} (O : o_Ok C) (p : Nat) (hp : p < 2) (m : Int64) : o_Ok (o_st p C m) ∧ o_Ext C (o_st p C m) ∧ (m + 1).toBitVec.toNat < 2 ^ o_bp (o_st p C m) p ∧ (o_st p C m).P.length ≤ C.P.length + 1 := by
  have hb : 1 ≤ o_bp C p ∧ o_bp C p ≤ 64 := by unfold o_bp; split; exact O.b0; exact O.b1
  unfold o_st
  by_cases hn : o_need m (o_bp C p)
  · rw [if_pos hn]
    obtain ⟨w1, w2, w3⟩ := o_wi_ok m hb.1 hb.2 hn
    generalize o_wi (m + 1) (o_bp C p) = w at *
    have I := O.inv.add p (o_bp C p) (w - o_bp C p) (by omega) (by omega) hp
    have g := fun v => o_ts_get C.ts (w - o_bp C p) v (by omega) O.inv.top
    have hl := o_tslen C.ts (w - o_bp C p)
    have bpn : ∀ r, r < 2 → o_bp (o_up C p w (o_add C p (o_bp C p) (w - o_bp C p))) r = if r = p then w else o_bp C r := fun r hr => by
      unfold o_bp o_up
      rcases (show p = 0 ∨ p = 1 by omega) with rfl | rfl <;> rcases (show r = 0 ∨ r = 1 by omega) with rfl | rfl <;> rfl
    refine ⟨⟨⟨?_, I.tl, I.top, I.fld, I.lo, I.dis⟩, ?_, ?_, fun r i hr => ?_, ?_⟩, ⟨⟨[o_pc C p (o_bp C p) (w - o_bp C p)], rfl, fun q hq => ?_⟩, ?_, fun v => (g v).1, fun r => ?_⟩, ?_, ?_⟩
    · have := I.len
      show (((o_add C p (o_bp C p) (w - o_bp C p)).xs.set _ _).set _ _).length = (o_add C p (o_bp C p) (w - o_bp C p)).P.length
      rw [List.length_set, List.length_set]; exact this
    · show 1 ≤ (if p = 0 then w else C.b0) ∧ (if p = 0 then w else C.b0) ≤ 64
      have := O.b0; split <;> omega
    · show 1 ≤ (if p = 0 then C.b1 else w) ∧ (if p = 0 then C.b1 else w) ≤ 64
      have := O.b1; split <;> omega
    · show (C.P ++ [o_pc C p (o_bp C p) (w - o_bp C p)]).any (o_cv r i) = _
      rw [List.any_append, O.cov r i hr, bpn r hr]
      by_cases e : r = p
      · subst e
        have : decide (i < w) = (decide (i < o_bp C r) || (decide (o_bp C r ≤ i) && decide (i < o_bp C r + (w - o_bp C r)))) := by
          rw [Bool.eq_iff_iff]; simp; omega
        simp [o_cv, o_pc, this]
      · simp [o_cv, o_pc, e, Ne.symm e]
    · obtain ⟨R, hR⟩ := O.fst
      exact ⟨R ++ [o_pc C p (o_bp C p) (w - o_bp C p)], by show C.P ++ _ = _; rw [hR]; rfl⟩
    · cases List.mem_singleton.mp hq
      exact ⟨Nat.le_refl _, fun _ => Nat.le_refl _⟩
    · show C.ts.length ≤ (o_ts C.ts (w - o_bp C p)).length
      rw [hl]; split <;> omega
    · by_cases hr : r < 2
      · rw [bpn r hr]; split
        · rename_i e; subst e; omega
        · omega
      · unfold o_bp o_up
        rw [if_neg (by omega), if_neg (by omega)]
        rcases (show p = 0 ∨ p = 1 by omega) with rfl | rfl
        · exact Nat.le_refl _
        · have : o_bp C 1 = C.b1 := rfl
          show C.b1 ≤ w; omega
    · rw [bpn p hp, if_pos rfl]; exact w3
    · show (C.P ++ [_]).length ≤ _
      simp
  · rw [if_neg hn]
    refine ⟨O, o_Ext.refl C, ?_, by omega⟩
    rw [o_need_iff m hb.1 hb.2] at hn
    omega
theorem o_widen_ok {C : o_C} (O : o_Ok C) (m0 m1 : Int64) : o_Ok (o_widen C m0 m1) ∧ o_Ext C (o_widen C m0 m1) ∧ (∀ p, p < 2 → (o_cd m0 m1 p).toBitVec.toNat < 2 ^ o_bp (o_widen C m0 m1) p) ∧ (o_widen C m0 m1).P.length ≤ C.P.length + 2 := by
  obtain ⟨a1, a2, a3, a4⟩ := o_st_ok O 0 (by decide) m0
  obtain ⟨b1, b2, b3, b4⟩ := o_st_ok a1 1 (by decide) m1
  unfold o_widen
  refine ⟨b1, o_Ext.trans a2 b2, fun p hp => ?_, by omega⟩
  rcases (show p = 0 ∨ p = 1 by omega) with rfl | rfl
  · exact Nat.lt_of_lt_of_le a3 (Nat.pow_le_pow_right (by decide) (b2.bb 0))
  · exact b3
/-! reading -/
def o_rd (G : Nat → Int64) (stored p i : Nat) (q : o_P) : Bool := decide (q.pl = p) && (decide (q.wo < stored) && (decide (q.lo ≤ i) && (decide (i < q.lo + q.wd) && o_bit (o_ex (G q.wo) q) (i - q.lo))))
theorem o_rdany {C C' : o_C} (O : o_Ok C) (O' : o_Ok C') (X : o_Ext C C') {L : List Int64} (hL : C.ts.length ≤ L.length) (m0 m1 : Int64) (hf : ∀ p, p < 2 → (o_cd m0 m1 p).toBitVec.toNat < 2 ^ o_bp C p) (G : Nat → Int64) (hG : ∀ w, w < C.ts.length → G w = (o_pk C L m0 m1).getD w 0) (p : Nat) (hp : p < 2) (i : Nat) : C'.P.any (o_rd G C.ts.length p i) = o_bit (o_cd m0 m1 p) i := by
  obtain ⟨E, hE, hE2⟩ := X.ex
  cases hb : o_bit (o_cd m0 m1 p) i with
  | true =>
    apply List.any_eq_true.mpr
    have hi : i < o_bp C p := by
      apply Nat.lt_of_not_le
      intro q
      rw [o_hi0 _ (hf p hp) i q] at hb
      cases hb
    have := O.cov p i hp
    rw [decide_eq_true hi] at this
    obtain ⟨q, hq, hc⟩ := List.any_eq_true.mp this
    refine ⟨q, by rw [hE]; exact List.mem_append_left _ hq, ?_⟩
    have hf' := O.inv.fld q hq; have hl := O.inv.lo q hq
    simp only [o_cv, Bool.and_eq_true, decide_eq_true_eq] at hc
    unfold o_rd
    rw [hG _ hf'.1, o_own O.inv hL m0 m1 hq, o_fvbit _ _ hl.1 hf'.2.2, hc.1, show q.lo + (i - q.lo) = i by omega, hb]
    simp [hf'.1, hc.2.1, hc.2.2]; omega
  | false =>
    apply List.any_eq_false.mpr
    intro q hq
    by_cases h1 : q.pl = p
    · by_cases h2 : q.wo < C.ts.length
      · by_cases h3 : q.lo ≤ i
        · have hf' := O'.inv.fld q hq; have hl := O'.inv.lo q hq; have ht := O'.inv.top q.wo
          rw [hE] at hq
          have e : o_bit (o_ex (G q.wo) q) (i - q.lo) = false := by
            rw [hG _ h2]
            rcases List.mem_append.mp hq with r | r
            · rw [o_own O.inv hL m0 m1 r, o_fvbit _ _ hl.1 hf'.2.2, h1, show q.lo + (i - q.lo) = i by omega, hb]; simp
            · rw [o_free O.inv hL m0 m1 q h2 ((hE2 q r).2 h2) (by omega) hf'.2.2, o_b0]
          simp [o_rd, e]
        · simp [o_rd, h3]
      · simp [o_rd, h2]
    · simp [o_rd, h1]
/-! unpack -/
def o_us (G : Nat → Int64) (stored : Nat) (L : List Int64) (q : o_P) : List Int64 := if q.wo < stored then L.set q.pl (L.getD q.pl 0 ||| o_shl (o_ex (G q.wo) q) (n32 q.lo)) else L
def o_un (G : Nat → Int64) (stored : Nat) (R : List o_P) (L : List Int64) : List Int64 := R.foldl (o_us G stored) L
theorem o_uslen (G : Nat → Int64) (stored : Nat) (L : List Int64) (q : o_P) : (o_us G stored L q).length = L.length := by unfold o_us; split <;> simp
theorem o_unlen (G : Nat → Int64) (stored : Nat) (R : List o_P) (L : List Int64) : (o_un G stored R L).length = L.length := by
  induction R generalizing L with
  | nil => rfl
  | cons q R ih => exact (ih _).trans (o_uslen ..)
theorem o_orbit (x : Int64) (G : Nat → Int64) (q : o_P) (hi : i < 64) (h : q.lo + q.wd ≤ 64 ∧ 1 ≤ q.wd ∧ q.sh + q.wd ≤ 64) : o_bit (x ||| o_shl (o_ex (G q.wo) q) (n32 q.lo)) i = (o_bit x i || (decide (q.lo ≤ i) && (decide (i < q.lo + q.wd) && o_bit (o_ex (G q.wo) q) (i - q.lo)))) := by
  rw [o_bor, o_bshl _ (by omega)]
  congr 1
  by_cases a : q.lo ≤ i
  · rw [o_exbit _ _ h.2.2 h.2.1]
    have e1 : decide (i - q.lo < q.wd) = decide (i < q.lo + q.wd) := by congr 1; apply propext; omega
    rw [e1]
    by_cases b : i < q.lo + q.wd
    · simp [hi, a, b, Nat.not_lt.mpr a]
    · simp [b]
  · simp [hi, a, Nat.lt_of_not_le a]
theorem o_unbit (G : Nat → Int64) (stored p i : Nat) (hp : p < 2) (hi : i < 64) (R : List o_P) (h : ∀ q ∈ R, q.pl < 2 ∧ q.lo + q.wd ≤ 64 ∧ 1 ≤ q.wd ∧ q.sh + q.wd ≤ 64) : ∀ L : List Int64, L.length = 2 → o_bit ((o_un G stored R L).getD p 0) i = (o_bit (L.getD p 0) i || R.any (o_rd G stored p i)) := by
  induction R with
  | nil => intro L _; simp [o_un]
  | cons q R ih =>
    intro L hL
    obtain ⟨h1, h2⟩ := h q (List.mem_cons_self ..)
    show o_bit ((o_un G stored R (o_us G stored L q)).getD p 0) i = _
    rw [ih (fun r hr => h r (List.mem_cons_of_mem _ hr)) _ ((o_uslen ..).trans hL), List.any_cons, ← Bool.or_assoc]
    congr 1
    unfold o_us
    by_cases a : q.wo < stored
    · rw [if_pos a, List.getD_eq_getElem?_getD]
      by_cases e : q.pl = p
      · subst e
        rw [List.getElem?_set_self (by omega)]
        show o_bit (L.getD q.pl 0 ||| _) i = _
        rw [o_orbit _ G q hi h2]
        simp [o_rd, a]
      · rw [List.getElem?_set_ne e, ← List.getD_eq_getElem?_getD]
        simp [o_rd, e]
    · rw [if_neg a]
      simp [o_rd, a]
theorem o_exfirst (G : Nat → Int64) (stored p i : Nat) (h0 : 0 < stored) (q : o_P) (hq : q.lo = 0 ∧ q.wd = 1 ∧ q.wo = 0 ∧ q.sh + 1 ≤ 64 ∧ q.pl = p) : o_bit (o_ex (G 0) q) i = o_rd G stored p i q := by
  obtain ⟨h1, h2, h3, h4, h5⟩ := hq
  unfold o_rd
  rw [h3, h1, h5, h2, Nat.sub_zero, o_exbit _ _ (by omega) (by omega), h2]
  by_cases a : i = 0 <;> simp [h0, a]
/-- unpacked: the codes -/
theorem o_unpacked {C C' : o_C} (O : o_Ok C) (O' : o_Ok C') (X : o_Ext C C') {L : List Int64} (hL : C.ts.length ≤ L.length) (m0 m1 : Int64) (hf : ∀ p, p < 2 → (o_cd m0 m1 p).toBitVec.toNat < 2 ^ o_bp C p) (G : Nat → Int64) (hG : ∀ w, w < C.ts.length → G w = (o_pk C L m0 m1).getD w 0) (p : Nat) (hp : p < 2) : (o_un G C.ts.length (C'.P.drop 2) [o_ex (G 0) o_q0, o_ex (G 0) o_q1]).getD p 0 = o_cd m0 m1 p := by
  obtain ⟨R, hR⟩ := O'.fst
  obtain ⟨R0, hR0⟩ := O.fst
  have h0 : 0 < C.ts.length := by
    have := (O.inv.fld o_q0 (by rw [hR0]; exact List.mem_cons_self ..)).1
    exact this
  apply o_bext
  intro i hi
  rw [← o_rdany O O' X hL m0 m1 hf G hG p hp i, hR]
  show o_bit ((o_un G C.ts.length R _).getD p 0) i = _
  rw [o_unbit G _ p i hp hi R (fun q hq => by
    have hm : q ∈ C'.P := by rw [hR]; exact List.mem_cons_of_mem _ (List.mem_cons_of_mem _ hq)
    have := O'.inv.fld q hm; have := O'.inv.lo q hm; have := O'.inv.top q.wo
    exact ⟨by omega, by omega, by omega, by omega⟩) _ rfl, List.any_cons, List.any_cons, ← Bool.or_assoc]
  congr 1
  rcases (show p = 0 ∨ p = 1 by omega) with rfl | rfl
  · rw [← o_exfirst G C.ts.length 0 i h0 o_q0 (by decide)]
    have : o_rd G C.ts.length 0 i o_q1 = false := by simp [o_rd, o_q1]
    rw [this, Bool.or_false]; rfl
  · rw [← o_exfirst G C.ts.length 1 i h0 o_q1 (by decide)]
    have : o_rd G C.ts.length 1 i o_q0 = false := by simp [o_rd, o_q0]
    rw [this, Bool.false_or]; rfl
/-! count -/
def o_cs (G : Nat → Int64) (stored : Nat) (x : Int64) (q : o_P) : Int64 := if q.wo < stored then x ||| o_shl (o_ex (G q.wo) q) (n32 q.lo) else x
def o_ct (G : Nat → Int64) (stored : Nat) (Q : List o_P) (x : Int64) : Int64 := Q.foldl (o_cs G stored) x
theorem o_ctbit (G : Nat → Int64) (stored p i : Nat) (hi : i < 64) (Q : List o_P) (h : ∀ q ∈ Q, q.pl = p ∧ q.lo + q.wd ≤ 64 ∧ 1 ≤ q.wd ∧ q.sh + q.wd ≤ 64) : ∀ x : Int64, o_bit (o_ct G stored Q x) i = (o_bit x i || Q.any (o_rd G stored p i)) := by
  induction Q with
  | nil => intro x; simp [o_ct]
  | cons q Q ih =>
    intro x
    obtain ⟨h1, h2⟩ := h q (List.mem_cons_self ..)
    show o_bit (o_ct G stored Q (o_cs G stored x q)) i = _
    rw [ih (fun r hr => h r (List.mem_cons_of_mem _ hr)), List.any_cons, ← Bool.or_assoc]
    congr 1
    unfold o_cs
    by_cases a : q.wo < stored
    · rw [if_pos a, o_orbit _ G q hi h2]
      simp [o_rd, a, h1]
    · rw [if_neg a]
      simp [o_rd, a]
theorem o_counted {C C' : o_C} (O : o_Ok C) (O' : o_Ok C') (X : o_Ext C C') {L : List Int64} (hL : C.ts.length ≤ L.length) (m0 m1 : Int64) (hf : ∀ p, p < 2 → (o_cd m0 m1 p).toBitVec.toNat < 2 ^ o_bp C p) (G : Nat → Int64) (hG : ∀ w, w < C.ts.length → G w = (o_pk C L m0 m1).getD w 0) (p : Nat) (hp : p < 2) (f : o_P) (hfq : f.lo = 0 ∧ f.wd = 1 ∧ f.wo = 0 ∧ f.sh + 1 ≤ 64 ∧ f.pl = p) (hfm : f ∈ C'.P) (Q : List o_P) (hQ : ∀ q ∈ Q, q ∈ C'.P ∧ q.pl = p) (hall : ∀ q ∈ C'.P, q.pl = p → q = f ∨ q ∈ Q) : o_ct G C.ts.length Q (o_ex (G 0) f) = o_cd m0 m1 p := by
  obtain ⟨R0, hR0⟩ := O.fst
  have h0 : 0 < C.ts.length := by
    have := (O.inv.fld o_q0 (by rw [hR0]; exact List.mem_cons_self ..)).1
    exact this
  apply o_bext
  intro i hi
  rw [← o_rdany O O' X hL m0 m1 hf G hG p hp i, o_ctbit G _ p i hi Q (fun q hq => by
    have hm := (hQ q hq).1
    have := O'.inv.fld q hm; have := O'.inv.lo q hm; have := O'.inv.top q.wo
    exact ⟨(hQ q hq).2, by omega, by omega, by omega⟩), o_exfirst G C.ts.length p i h0 f hfq]
  rw [Bool.eq_iff_iff, Bool.or_eq_true, List.any_eq_true, List.any_eq_true]
  constructor
  · rintro (h | ⟨q, h1, h2⟩)
    · exact ⟨f, hfm, h⟩
    · exact ⟨q, (hQ q h1).1, h2⟩
  · rintro ⟨q, h1, h2⟩
    have : q.pl = p := by
      simp only [o_rd, Bool.and_eq_true, decide_eq_true_eq] at h2
      exact h2.1
    rcases hall q h1 this with rfl | h
    · exact Or.inl h2
    · exact Or.inr ⟨q, h, h2⟩
/-! the codes fit -/
theorem o_bxall (x : Int64) (i : Nat) (hi : i < 64) : o_bit (x ^^^ (-1 : Int64)) i = !o_bit x i := by
  show (x.toBitVec ^^^ (-1 : Int64).toBitVec).getLsbD i = _
  rw [show (-1 : Int64).toBitVec = BitVec.allOnes 64 by decide, BitVec.getLsbD_xor, BitVec.getLsbD_allOnes]
  simp [hi]; rfl
theorem o_bynd {c : Int64} {b : Nat} (h1 : 1 ≤ b) (h2 : b ≤ 64) (h : c.toBitVec.toNat < 2 ^ b) : c &&& (o_lim b ^^^ (-1 : Int64)) = 0 := by
  apply o_bext
  intro i hi
  rw [o_band, o_bxall _ _ hi, o_limbit h1 h2, o_b0]
  by_cases q : i < b
  · simp [q]
  · rw [o_hi0 c h i (by omega)]; simp
/-! the layout in the heap -/
def o_cap (k : Nat) : Nat := if k ≤ 2 then 2 else if k ≤ 4 then 4 else 8
abbrev o_A := Addr × Addr × Addr × Addr × Addr × Addr × Addr × Addr × ClassId × ClassId × ClassId × ClassId × ClassId × ClassId × ClassId × ClassId
abbrev o_A.l (q : o_A) : Addr := q.1
abbrev o_A.p (q : o_A) : Addr := q.2.1
abbrev o_A.lo (q : o_A) : Addr := q.2.2.1
abbrev o_A.m (q : o_A) : Addr := q.2.2.2.1
abbrev o_A.w (q : o_A) : Addr := q.2.2.2.2.1
abbrev o_A.s (q : o_A) : Addr := q.2.2.2.2.2.1
abbrev o_A.x (q : o_A) : Addr := q.2.2.2.2.2.2.1
abbrev o_A.t (q : o_A) : Addr := q.2.2.2.2.2.2.2.1
abbrev o_A.kl (q : o_A) : ClassId := q.2.2.2.2.2.2.2.2.1
abbrev o_A.kp (q : o_A) : ClassId := q.2.2.2.2.2.2.2.2.2.1
abbrev o_A.ko (q : o_A) : ClassId := q.2.2.2.2.2.2.2.2.2.2.1
abbrev o_A.km (q : o_A) : ClassId := q.2.2.2.2.2.2.2.2.2.2.2.1
abbrev o_A.kw (q : o_A) : ClassId := q.2.2.2.2.2.2.2.2.2.2.2.2.1
abbrev o_A.ks (q : o_A) : ClassId := q.2.2.2.2.2.2.2.2.2.2.2.2.2.1
abbrev o_A.kx (q : o_A) : ClassId := q.2.2.2.2.2.2.2.2.2.2.2.2.2.2.1
abbrev o_A.kt (q : o_A) : ClassId := q.2.2.2.2.2.2.2.2.2.2.2.2.2.2.2
def o_A.all (A : o_A) : List Addr := [A.l, A.p, A.lo, A.m, A.w, A.s, A.x, A.t]
abbrev o_L (Z : State) (h : Heap) (n0 : Nat) (a : Addr) (A : o_A) (C : o_C) : Prop :=
  ((a :: A.all).Nodup) ∧
  (∀ y ∈ a :: A.all, n0 ≤ y) ∧
  (Exa Z h a "com/example/marke/marke/analysis/MarkingLayout") ∧
  (Fld Z h a "com/example/marke/marke/analysis/MarkingLayout" "limits" "[J" (.ref A.l)) ∧
  (Fld Z h a "com/example/marke/marke/analysis/MarkingLayout" "places" "[I" (.ref A.p)) ∧
  (Fld Z h a "com/example/marke/marke/analysis/MarkingLayout" "lows" "[I" (.ref A.lo)) ∧
  (Fld Z h a "com/example/marke/marke/analysis/MarkingLayout" "masks" "[J" (.ref A.m)) ∧
  (Fld Z h a "com/example/marke/marke/analysis/MarkingLayout" "words" "[I" (.ref A.w)) ∧
  (Fld Z h a "com/example/marke/marke/analysis/MarkingLayout" "shifts" "[I" (.ref A.s)) ∧
  (Fld Z h a "com/example/marke/marke/analysis/MarkingLayout" "nexts" "[I" (.ref A.x)) ∧
  (Fld Z h a "com/example/marke/marke/analysis/MarkingLayout" "tops" "[I" (.ref A.t)) ∧
  (Fld Z h a "com/example/marke/marke/analysis/MarkingLayout" "pieces" "I" (.int (n32 C.P.length))) ∧
  (Fld Z h a "com/example/marke/marke/analysis/MarkingLayout" "length" "I" (.int (n32 C.ts.length))) ∧
  (Arv Z h A.l A.kl .long 2 [.long (o_lim C.b0), .long (o_lim C.b1)] (.long 0)) ∧
  (Arv Z h A.p A.kp .int (n32 (o_cap C.P.length)) (C.P.map fun (q : o_P) => .int (n32 q.pl)) (.int 0)) ∧
  (Arv Z h A.lo A.ko .int (n32 (o_cap C.P.length)) (C.P.map fun (q : o_P) => .int (n32 q.lo)) (.int 0)) ∧
  (Arv Z h A.m A.km .long (n32 (o_cap C.P.length)) (C.P.map fun (q : o_P) => .long (o_mk (n32 q.wd))) (.long 0)) ∧
  (Arv Z h A.w A.kw .int (n32 (o_cap C.P.length)) (C.P.map fun (q : o_P) => .int (n32 q.wo)) (.int 0)) ∧
  (Arv Z h A.s A.ks .int (n32 (o_cap C.P.length)) (C.P.map fun (q : o_P) => .int (n32 q.sh)) (.int 0)) ∧
  (Arv Z h A.x A.kx .int (n32 (o_cap C.P.length)) (C.xs.map Value.int) (.int 0)) ∧
  (Arv Z h A.t A.kt .int (n32 (o_cap C.ts.length)) (C.ts.map fun t => .int (n32 t)) (.int 0))
theorem o_L.nd {Z : State} {h : Heap} {n0 : Nat} {a : Addr} {A : o_A} {C : o_C} (q_ : o_L Z  h  n0  a  A  C ) : (a :: A.all).Nodup := q_.1
theorem o_L.ge {Z : State} {h : Heap} {n0 : Nat} {a : Addr} {A : o_A} {C : o_C} (q_ : o_L Z  h  n0  a  A  C ) : ∀ y ∈ a :: A.all, n0 ≤ y := q_.2.1
theorem o_L.E {Z : State} {h : Heap} {n0 : Nat} {a : Addr} {A : o_A} {C : o_C} (q_ : o_L Z  h  n0  a  A  C ) : Exa Z h a "com/example/marke/marke/analysis/MarkingLayout" := q_.2.2.1
theorem o_L.f_limits {Z : State} {h : Heap} {n0 : Nat} {a : Addr} {A : o_A} {C : o_C} (q_ : o_L Z  h  n0  a  A  C ) : Fld Z h a "com/example/marke/marke/analysis/MarkingLayout" "limits" "[J" (.ref A.l) := q_.2.2.2.1
theorem o_L.f_places {Z : State} {h : Heap} {n0 : Nat} {a : Addr} {A : o_A} {C : o_C} (q_ : o_L Z  h  n0  a  A  C ) : Fld Z h a "com/example/marke/marke/analysis/MarkingLayout" "places" "[I" (.ref A.p) := q_.2.2.2.2.1
theorem o_L.f_lows {Z : State} {h : Heap} {n0 : Nat} {a : Addr} {A : o_A} {C : o_C} (q_ : o_L Z  h  n0  a  A  C ) : Fld Z h a "com/example/marke/marke/analysis/MarkingLayout" "lows" "[I" (.ref A.lo) := q_.2.2.2.2.2.1
theorem o_L.f_masks {Z : State} {h : Heap} {n0 : Nat} {a : Addr} {A : o_A} {C : o_C} (q_ : o_L Z  h  n0  a  A  C ) : Fld Z h a "com/example/marke/marke/analysis/MarkingLayout" "masks" "[J" (.ref A.m) := q_.2.2.2.2.2.2.1
theorem o_L.f_words {Z : State} {h : Heap} {n0 : Nat} {a : Addr} {A : o_A} {C : o_C} (q_ : o_L Z  h  n0  a  A  C ) : Fld Z h a "com/example/marke/marke/analysis/MarkingLayout" "words" "[I" (.ref A.w) := q_.2.2.2.2.2.2.2.1
theorem o_L.f_shifts {Z : State} {h : Heap} {n0 : Nat} {a : Addr} {A : o_A} {C : o_C} (q_ : o_L Z  h  n0  a  A  C ) : Fld Z h a "com/example/marke/marke/analysis/MarkingLayout" "shifts" "[I" (.ref A.s) := q_.2.2.2.2.2.2.2.2.1
theorem o_L.f_nexts {Z : State} {h : Heap} {n0 : Nat} {a : Addr} {A : o_A} {C : o_C} (q_ : o_L Z  h  n0  a  A  C ) : Fld Z h a "com/example/marke/marke/analysis/MarkingLayout" "nexts" "[I" (.ref A.x) := q_.2.2.2.2.2.2.2.2.2.1
theorem o_L.f_tops {Z : State} {h : Heap} {n0 : Nat} {a : Addr} {A : o_A} {C : o_C} (q_ : o_L Z  h  n0  a  A  C ) : Fld Z h a "com/example/marke/marke/analysis/MarkingLayout" "tops" "[I" (.ref A.t) := q_.2.2.2.2.2.2.2.2.2.2.1
theorem o_L.f_pieces {Z : State} {h : Heap} {n0 : Nat} {a : Addr} {A : o_A} {C : o_C} (q_ : o_L Z  h  n0  a  A  C ) : Fld Z h a "com/example/marke/marke/analysis/MarkingLayout" "pieces" "I" (.int (n32 C.P.length)) := q_.2.2.2.2.2.2.2.2.2.2.2.1
theorem o_L.f_length {Z : State} {h : Heap} {n0 : Nat} {a : Addr} {A : o_A} {C : o_C} (q_ : o_L Z  h  n0  a  A  C ) : Fld Z h a "com/example/marke/marke/analysis/MarkingLayout" "length" "I" (.int (n32 C.ts.length)) := q_.2.2.2.2.2.2.2.2.2.2.2.2.1
theorem o_L.v_limits {Z : State} {h : Heap} {n0 : Nat} {a : Addr} {A : o_A} {C : o_C} (q_ : o_L Z  h  n0  a  A  C ) : Arv Z h A.l A.kl .long 2 [.long (o_lim C.b0), .long (o_lim C.b1)] (.long 0) := q_.2.2.2.2.2.2.2.2.2.2.2.2.2.1
theorem o_L.v_places {Z : State} {h : Heap} {n0 : Nat} {a : Addr} {A : o_A} {C : o_C} (q_ : o_L Z  h  n0  a  A  C ) : Arv Z h A.p A.kp .int (n32 (o_cap C.P.length)) (C.P.map fun (q : o_P) => .int (n32 q.pl)) (.int 0) := q_.2.2.2.2.2.2.2.2.2.2.2.2.2.2.1
theorem o_L.v_lows {Z : State} {h : Heap} {n0 : Nat} {a : Addr} {A : o_A} {C : o_C} (q_ : o_L Z  h  n0  a  A  C ) : Arv Z h A.lo A.ko .int (n32 (o_cap C.P.length)) (C.P.map fun (q : o_P) => .int (n32 q.lo)) (.int 0) := q_.2.2.2.2.2.2.2.2.2.2.2.2.2.2.2.1
theorem o_L.v_masks {Z : State} {h : Heap} {n0 : Nat} {a : Addr} {A : o_A} {C : o_C} (q_ : o_L Z  h  n0  a  A  C ) : Arv Z h A.m A.km .long (n32 (o_cap C.P.length)) (C.P.map fun (q : o_P) => .long (o_mk (n32 q.wd))) (.long 0) := q_.2.2.2.2.2.2.2.2.2.2.2.2.2.2.2.2.1
theorem o_L.v_words {Z : State} {h : Heap} {n0 : Nat} {a : Addr} {A : o_A} {C : o_C} (q_ : o_L Z  h  n0  a  A  C ) : Arv Z h A.w A.kw .int (n32 (o_cap C.P.length)) (C.P.map fun (q : o_P) => .int (n32 q.wo)) (.int 0) := q_.2.2.2.2.2.2.2.2.2.2.2.2.2.2.2.2.2.1
theorem o_L.v_shifts {Z : State} {h : Heap} {n0 : Nat} {a : Addr} {A : o_A} {C : o_C} (q_ : o_L Z  h  n0  a  A  C ) : Arv Z h A.s A.ks .int (n32 (o_cap C.P.length)) (C.P.map fun (q : o_P) => .int (n32 q.sh)) (.int 0) := q_.2.2.2.2.2.2.2.2.2.2.2.2.2.2.2.2.2.2.1
theorem o_L.v_nexts {Z : State} {h : Heap} {n0 : Nat} {a : Addr} {A : o_A} {C : o_C} (q_ : o_L Z  h  n0  a  A  C ) : Arv Z h A.x A.kx .int (n32 (o_cap C.P.length)) (C.xs.map Value.int) (.int 0) := q_.2.2.2.2.2.2.2.2.2.2.2.2.2.2.2.2.2.2.2.1
theorem o_L.v_tops {Z : State} {h : Heap} {n0 : Nat} {a : Addr} {A : o_A} {C : o_C} (q_ : o_L Z  h  n0  a  A  C ) : Arv Z h A.t A.kt .int (n32 (o_cap C.ts.length)) (C.ts.map fun t => .int (n32 t)) (.int 0) := q_.2.2.2.2.2.2.2.2.2.2.2.2.2.2.2.2.2.2.2.2
abbrev o_M (Z : State) (h : Heap) (n0 : Nat) (a : Addr) (A : o_A) (C : o_C) (zP zT tl : Nat) (tv : List Nat) : Prop :=
  ((a :: A.all).Nodup) ∧
  (∀ y ∈ a :: A.all, n0 ≤ y) ∧
  (Exa Z h a "com/example/marke/marke/analysis/MarkingLayout") ∧
  (Fld Z h a "com/example/marke/marke/analysis/MarkingLayout" "limits" "[J" (.ref A.l)) ∧
  (Fld Z h a "com/example/marke/marke/analysis/MarkingLayout" "places" "[I" (.ref A.p)) ∧
  (Fld Z h a "com/example/marke/marke/analysis/MarkingLayout" "lows" "[I" (.ref A.lo)) ∧
  (Fld Z h a "com/example/marke/marke/analysis/MarkingLayout" "masks" "[J" (.ref A.m)) ∧
  (Fld Z h a "com/example/marke/marke/analysis/MarkingLayout" "words" "[I" (.ref A.w)) ∧
  (Fld Z h a "com/example/marke/marke/analysis/MarkingLayout" "shifts" "[I" (.ref A.s)) ∧
  (Fld Z h a "com/example/marke/marke/analysis/MarkingLayout" "nexts" "[I" (.ref A.x)) ∧
  (Fld Z h a "com/example/marke/marke/analysis/MarkingLayout" "tops" "[I" (.ref A.t)) ∧
  (Fld Z h a "com/example/marke/marke/analysis/MarkingLayout" "pieces" "I" (.int (n32 C.P.length))) ∧
  (Fld Z h a "com/example/marke/marke/analysis/MarkingLayout" "length" "I" (.int (n32 tl))) ∧
  (Arv Z h A.l A.kl .long 2 [.long (o_lim C.b0), .long (o_lim C.b1)] (.long 0)) ∧
  (Arv Z h A.p A.kp .int (n32 zP) (C.P.map fun (q : o_P) => .int (n32 q.pl)) (.int 0)) ∧
  (Arv Z h A.lo A.ko .int (n32 zP) (C.P.map fun (q : o_P) => .int (n32 q.lo)) (.int 0)) ∧
  (Arv Z h A.m A.km .long (n32 zP) (C.P.map fun (q : o_P) => .long (o_mk (n32 q.wd))) (.long 0)) ∧
  (Arv Z h A.w A.kw .int (n32 zP) (C.P.map fun (q : o_P) => .int (n32 q.wo)) (.int 0)) ∧
  (Arv Z h A.s A.ks .int (n32 zP) (C.P.map fun (q : o_P) => .int (n32 q.sh)) (.int 0)) ∧
  (Arv Z h A.x A.kx .int (n32 zP) (C.xs.map Value.int) (.int 0)) ∧
  (Arv Z h A.t A.kt .int (n32 zT) (tv.map fun t => .int (n32 t)) (.int 0))
theorem o_M.nd {Z : State} {h : Heap} {n0 : Nat} {a : Addr} {A : o_A} {C : o_C} {zP zT tl : Nat} {tv : List Nat} (q_ : o_M Z  h  n0  a  A  C  zP zT tl  tv ) : (a :: A.all).Nodup := q_.1
theorem o_M.ge {Z : State} {h : Heap} {n0 : Nat} {a : Addr} {A : o_A} {C : o_C} {zP zT tl : Nat} {tv : List Nat} (q_ : o_M Z  h  n0  a  A  C  zP zT tl  tv ) : ∀ y ∈ a :: A.all, n0 ≤ y := q_.2.1
theorem o_M.E {Z : State} {h : Heap} {n0 : Nat} {a : Addr} {A : o_A} {C : o_C} {zP zT tl : Nat} {tv : List Nat} (q_ : o_M Z  h  n0  a  A  C  zP zT tl  tv ) : Exa Z h a "com/example/marke/marke/analysis/MarkingLayout" := q_.2.2.1
theorem o_M.f_limits {Z : State} {h : Heap} {n0 : Nat} {a : Addr} {A : o_A} {C : o_C} {zP zT tl : Nat} {tv : List Nat} (q_ : o_M Z  h  n0  a  A  C  zP zT tl  tv ) : Fld Z h a "com/example/marke/marke/analysis/MarkingLayout" "limits" "[J" (.ref A.l) := q_.2.2.2.1
theorem o_M.f_places {Z : State} {h : Heap} {n0 : Nat} {a : Addr} {A : o_A} {C : o_C} {zP zT tl : Nat} {tv : List Nat} (q_ : o_M Z  h  n0  a  A  C  zP zT tl  tv ) : Fld Z h a "com/example/marke/marke/analysis/MarkingLayout" "places" "[I" (.ref A.p) := q_.2.2.2.2.1
theorem o_M.f_lows {Z : State} {h : Heap} {n0 : Nat} {a : Addr} {A : o_A} {C : o_C} {zP zT tl : Nat} {tv : List Nat} (q_ : o_M Z  h  n0  a  A  C  zP zT tl  tv ) : Fld Z h a "com/example/marke/marke/analysis/MarkingLayout" "lows" "[I" (.ref A.lo) := q_.2.2.2.2.2.1
theorem o_M.f_masks {Z : State} {h : Heap} {n0 : Nat} {a : Addr} {A : o_A} {C : o_C} {zP zT tl : Nat} {tv : List Nat} (q_ : o_M Z  h  n0  a  A  C  zP zT tl  tv ) : Fld Z h a "com/example/marke/marke/analysis/MarkingLayout" "masks" "[J" (.ref A.m) := q_.2.2.2.2.2.2.1
theorem o_M.f_words {Z : State} {h : Heap} {n0 : Nat} {a : Addr} {A : o_A} {C : o_C} {zP zT tl : Nat} {tv : List Nat} (q_ : o_M Z  h  n0  a  A  C  zP zT tl  tv ) : Fld Z h a "com/example/marke/marke/analysis/MarkingLayout" "words" "[I" (.ref A.w) := q_.2.2.2.2.2.2.2.1
theorem o_M.f_shifts {Z : State} {h : Heap} {n0 : Nat} {a : Addr} {A : o_A} {C : o_C} {zP zT tl : Nat} {tv : List Nat} (q_ : o_M Z  h  n0  a  A  C  zP zT tl  tv ) : Fld Z h a "com/example/marke/marke/analysis/MarkingLayout" "shifts" "[I" (.ref A.s) := q_.2.2.2.2.2.2.2.2.1
theorem o_M.f_nexts {Z : State} {h : Heap} {n0 : Nat} {a : Addr} {A : o_A} {C : o_C} {zP zT tl : Nat} {tv : List Nat} (q_ : o_M Z  h  n0  a  A  C  zP zT tl  tv ) : Fld Z h a "com/example/marke/marke/analysis/MarkingLayout" "nexts" "[I" (.ref A.x) := q_.2.2.2.2.2.2.2.2.2.1
theorem o_M.f_tops {Z : State} {h : Heap} {n0 : Nat} {a : Addr} {A : o_A} {C : o_C} {zP zT tl : Nat} {tv : List Nat} (q_ : o_M Z  h  n0  a  A  C  zP zT tl  tv ) : Fld Z h a "com/example/marke/marke/analysis/MarkingLayout" "tops" "[I" (.ref A.t) := q_.2.2.2.2.2.2.2.2.2.2.1
theorem o_M.f_pieces {Z : State} {h : Heap} {n0 : Nat} {a : Addr} {A : o_A} {C : o_C} {zP zT tl : Nat} {tv : List Nat} (q_ : o_M Z  h  n0  a  A  C  zP zT tl  tv ) : Fld Z h a "com/example/marke/marke/analysis/MarkingLayout" "pieces" "I" (.int (n32 C.P.length)) := q_.2.2.2.2.2.2.2.2.2.2.2.1
theorem o_M.f_length {Z : State} {h : Heap} {n0 : Nat} {a : Addr} {A : o_A} {C : o_C} {zP zT tl : Nat} {tv : List Nat} (q_ : o_M Z  h  n0  a  A  C  zP zT tl  tv ) : Fld Z h a "com/example/marke/marke/analysis/MarkingLayout" "length" "I" (.int (n32 tl)) := q_.2.2.2.2.2.2.2.2.2.2.2.2.1
theorem o_M.v_limits {Z : State} {h : Heap} {n0 : Nat} {a : Addr} {A : o_A} {C : o_C} {zP zT tl : Nat} {tv : List Nat} (q_ : o_M Z  h  n0  a  A  C  zP zT tl  tv ) : Arv Z h A.l A.kl .long 2 [.long (o_lim C.b0), .long (o_lim C.b1)] (.long 0) := q_.2.2.2.2.2.2.2.2.2.2.2.2.2.1
theorem o_M.v_places {Z : State} {h : Heap} {n0 : Nat} {a : Addr} {A : o_A} {C : o_C} {zP zT tl : Nat} {tv : List Nat} (q_ : o_M Z  h  n0  a  A  C  zP zT tl  tv ) : Arv Z h A.p A.kp .int (n32 zP) (C.P.map fun (q : o_P) => .int (n32 q.pl)) (.int 0) := q_.2.2.2.2.2.2.2.2.2.2.2.2.2.2.1
theorem o_M.v_lows {Z : State} {h : Heap} {n0 : Nat} {a : Addr} {A : o_A} {C : o_C} {zP zT tl : Nat} {tv : List Nat} (q_ : o_M Z  h  n0  a  A  C  zP zT tl  tv ) : Arv Z h A.lo A.ko .int (n32 zP) (C.P.map fun (q : o_P) => .int (n32 q.lo)) (.int 0) := q_.2.2.2.2.2.2.2.2.2.2.2.2.2.2.2.1
theorem o_M.v_masks {Z : State} {h : Heap} {n0 : Nat} {a : Addr} {A : o_A} {C : o_C} {zP zT tl : Nat} {tv : List Nat} (q_ : o_M Z  h  n0  a  A  C  zP zT tl  tv ) : Arv Z h A.m A.km .long (n32 zP) (C.P.map fun (q : o_P) => .long (o_mk (n32 q.wd))) (.long 0) := q_.2.2.2.2.2.2.2.2.2.2.2.2.2.2.2.2.1
theorem o_M.v_words {Z : State} {h : Heap} {n0 : Nat} {a : Addr} {A : o_A} {C : o_C} {zP zT tl : Nat} {tv : List Nat} (q_ : o_M Z  h  n0  a  A  C  zP zT tl  tv ) : Arv Z h A.w A.kw .int (n32 zP) (C.P.map fun (q : o_P) => .int (n32 q.wo)) (.int 0) := q_.2.2.2.2.2.2.2.2.2.2.2.2.2.2.2.2.2.1
theorem o_M.v_shifts {Z : State} {h : Heap} {n0 : Nat} {a : Addr} {A : o_A} {C : o_C} {zP zT tl : Nat} {tv : List Nat} (q_ : o_M Z  h  n0  a  A  C  zP zT tl  tv ) : Arv Z h A.s A.ks .int (n32 zP) (C.P.map fun (q : o_P) => .int (n32 q.sh)) (.int 0) := q_.2.2.2.2.2.2.2.2.2.2.2.2.2.2.2.2.2.2.1
theorem o_M.v_nexts {Z : State} {h : Heap} {n0 : Nat} {a : Addr} {A : o_A} {C : o_C} {zP zT tl : Nat} {tv : List Nat} (q_ : o_M Z  h  n0  a  A  C  zP zT tl  tv ) : Arv Z h A.x A.kx .int (n32 zP) (C.xs.map Value.int) (.int 0) := q_.2.2.2.2.2.2.2.2.2.2.2.2.2.2.2.2.2.2.2.1
theorem o_M.v_tops {Z : State} {h : Heap} {n0 : Nat} {a : Addr} {A : o_A} {C : o_C} {zP zT tl : Nat} {tv : List Nat} (q_ : o_M Z  h  n0  a  A  C  zP zT tl  tv ) : Arv Z h A.t A.kt .int (n32 zT) (tv.map fun t => .int (n32 t)) (.int 0) := q_.2.2.2.2.2.2.2.2.2.2.2.2.2.2.2.2.2.2.2.2
section Lay
variable {Z : State} {h h' : Heap} {n0 : Nat} {a y : Addr} {A : o_A} {C : o_C} {sl : Nat} {v : Value}
theorem o_L.ext (L : o_L Z h n0 a A C) (E : Ext h h') : o_L Z h' n0 a A C := ⟨L.nd, L.ge, L.E.ext E, L.f_limits.ext E, L.f_places.ext E, L.f_lows.ext E, L.f_masks.ext E, L.f_words.ext E, L.f_shifts.ext E, L.f_nexts.ext E, L.f_tops.ext E, L.f_pieces.ext E, L.f_length.ext E, L.v_limits.ext E, L.v_places.ext E, L.v_lows.ext E, L.v_masks.ext E, L.v_words.ext E, L.v_shifts.ext E, L.v_nexts.ext E, L.v_tops.ext E⟩
theorem o_L.other (L : o_L Z h n0 a A C) (W : Wr h h' y sl v) (q : y ∉ a :: A.all) : o_L Z h' n0 a A C := by
  have n : ∀ z ∈ a :: A.all, z ≠ y := fun z hz e => q (e ▸ hz)
  exact ⟨L.nd, L.ge, L.E.wr W, L.f_limits.other W (Or.inl (n _ (List.mem_of_getElem? (i := 0) rfl))), L.f_places.other W (Or.inl (n _ (List.mem_of_getElem? (i := 0) rfl))), L.f_lows.other W (Or.inl (n _ (List.mem_of_getElem? (i := 0) rfl))), L.f_masks.other W (Or.inl (n _ (List.mem_of_getElem? (i := 0) rfl))), L.f_words.other W (Or.inl (n _ (List.mem_of_getElem? (i := 0) rfl))), L.f_shifts.other W (Or.inl (n _ (List.mem_of_getElem? (i := 0) rfl))), L.f_nexts.other W (Or.inl (n _ (List.mem_of_getElem? (i := 0) rfl))), L.f_tops.other W (Or.inl (n _ (List.mem_of_getElem? (i := 0) rfl))), L.f_pieces.other W (Or.inl (n _ (List.mem_of_getElem? (i := 0) rfl))), L.f_length.other W (Or.inl (n _ (List.mem_of_getElem? (i := 0) rfl))), L.v_limits.other W (n _ (List.mem_of_getElem? (i := 1) rfl)), L.v_places.other W (n _ (List.mem_of_getElem? (i := 2) rfl)), L.v_lows.other W (n _ (List.mem_of_getElem? (i := 3) rfl)), L.v_masks.other W (n _ (List.mem_of_getElem? (i := 4) rfl)), L.v_words.other W (n _ (List.mem_of_getElem? (i := 5) rfl)), L.v_shifts.other W (n _ (List.mem_of_getElem? (i := 6) rfl)), L.v_nexts.other W (n _ (List.mem_of_getElem? (i := 7) rfl)), L.v_tops.other W (n _ (List.mem_of_getElem? (i := 8) rfl))⟩
theorem o_L.keep (L : o_L Z h n0 a A C) {ws : List Addr} (K : Keep h h' ws) (q : ∀ y ∈ ws, y ∉ a :: A.all) : o_L Z h' n0 a A C := by
  have n : ∀ z ∈ a :: A.all, z ∉ ws := fun z hz e => q z e hz
  exact ⟨L.nd, L.ge, L.E.keep K, L.f_limits.keep K (n _ (List.mem_of_getElem? (i := 0) rfl)), L.f_places.keep K (n _ (List.mem_of_getElem? (i := 0) rfl)), L.f_lows.keep K (n _ (List.mem_of_getElem? (i := 0) rfl)), L.f_masks.keep K (n _ (List.mem_of_getElem? (i := 0) rfl)), L.f_words.keep K (n _ (List.mem_of_getElem? (i := 0) rfl)), L.f_shifts.keep K (n _ (List.mem_of_getElem? (i := 0) rfl)), L.f_nexts.keep K (n _ (List.mem_of_getElem? (i := 0) rfl)), L.f_tops.keep K (n _ (List.mem_of_getElem? (i := 0) rfl)), L.f_pieces.keep K (n _ (List.mem_of_getElem? (i := 0) rfl)), L.f_length.keep K (n _ (List.mem_of_getElem? (i := 0) rfl)), L.v_limits.keep K (n _ (List.mem_of_getElem? (i := 1) rfl)), L.v_places.keep K (n _ (List.mem_of_getElem? (i := 2) rfl)), L.v_lows.keep K (n _ (List.mem_of_getElem? (i := 3) rfl)), L.v_masks.keep K (n _ (List.mem_of_getElem? (i := 4) rfl)), L.v_words.keep K (n _ (List.mem_of_getElem? (i := 5) rfl)), L.v_shifts.keep K (n _ (List.mem_of_getElem? (i := 6) rfl)), L.v_nexts.keep K (n _ (List.mem_of_getElem? (i := 7) rfl)), L.v_tops.keep K (n _ (List.mem_of_getElem? (i := 8) rfl))⟩
theorem o_L.lt (L : o_L Z h n0 a A C) : ∀ y ∈ a :: A.all, y < h.size := by
  intro y hy
  simp only [o_A.all, List.mem_cons, List.not_mem_nil, or_false] at hy
  rcases hy with rfl | rfl | rfl | rfl | rfl | rfl | rfl | rfl | rfl
  · exact L.E.lt
  · exact L.v_limits.lt
  · exact L.v_places.lt
  · exact L.v_lows.lt
  · exact L.v_masks.lt
  · exact L.v_words.lt
  · exact L.v_shifts.lt
  · exact L.v_nexts.lt
  · exact L.v_tops.lt
theorem o_L.nin (L : o_L Z h n0 a A C) (q : h.size ≤ y) : y ∉ a :: A.all := fun z => absurd (L.lt y z) (Nat.not_lt.mpr q)
theorem o_nd9 {u0 u1 u2 u3 u4 u5 u6 u7 u8 : Addr} (n01 : u0 ≠ u1) (n02 : u0 ≠ u2) (n03 : u0 ≠ u3) (n04 : u0 ≠ u4) (n05 : u0 ≠ u5) (n06 : u0 ≠ u6) (n07 : u0 ≠ u7) (n08 : u0 ≠ u8) (n12 : u1 ≠ u2) (n13 : u1 ≠ u3) (n14 : u1 ≠ u4) (n15 : u1 ≠ u5) (n16 : u1 ≠ u6) (n17 : u1 ≠ u7) (n18 : u1 ≠ u8) (n23 : u2 ≠ u3) (n24 : u2 ≠ u4) (n25 : u2 ≠ u5) (n26 : u2 ≠ u6) (n27 : u2 ≠ u7) (n28 : u2 ≠ u8) (n34 : u3 ≠ u4) (n35 : u3 ≠ u5) (n36 : u3 ≠ u6) (n37 : u3 ≠ u7) (n38 : u3 ≠ u8) (n45 : u4 ≠ u5) (n46 : u4 ≠ u6) (n47 : u4 ≠ u7) (n48 : u4 ≠ u8) (n56 : u5 ≠ u6) (n57 : u5 ≠ u7) (n58 : u5 ≠ u8) (n67 : u6 ≠ u7) (n68 : u6 ≠ u8) (n78 : u7 ≠ u8) : [u0, u1, u2, u3, u4, u5, u6, u7, u8].Nodup := by simp [*]
theorem o_nd36 {u0 u1 u2 u3 u4 u5 u6 u7 u8 : Addr} (h : [u0, u1, u2, u3, u4, u5, u6, u7, u8].Nodup) : u0 ≠ u1 ∧ u0 ≠ u2 ∧ u0 ≠ u3 ∧ u0 ≠ u4 ∧ u0 ≠ u5 ∧ u0 ≠ u6 ∧ u0 ≠ u7 ∧ u0 ≠ u8 ∧ u1 ≠ u2 ∧ u1 ≠ u3 ∧ u1 ≠ u4 ∧ u1 ≠ u5 ∧ u1 ≠ u6 ∧ u1 ≠ u7 ∧ u1 ≠ u8 ∧ u2 ≠ u3 ∧ u2 ≠ u4 ∧ u2 ≠ u5 ∧ u2 ≠ u6 ∧ u2 ≠ u7 ∧ u2 ≠ u8 ∧ u3 ≠ u4 ∧ u3 ≠ u5 ∧ u3 ≠ u6 ∧ u3 ≠ u7 ∧ u3 ≠ u8 ∧ u4 ≠ u5 ∧ u4 ≠ u6 ∧ u4 ≠ u7 ∧ u4 ≠ u8 ∧ u5 ≠ u6 ∧ u5 ≠ u7 ∧ u5 ≠ u8 ∧ u6 ≠ u7 ∧ u6 ≠ u8 ∧ u7 ≠ u8 := by
  simp only [List.nodup_cons, List.mem_cons, not_or, List.not_mem_nil, not_false_eq_true, and_true, List.nodup_nil] at h
  simp only [h, ne_eq, not_false_eq_true, and_self, true_and, and_true]
theorem o_all9 {u0 u1 u2 u3 u4 u5 u6 u7 u8 : Addr} {P : Addr → Prop} (p0 : P u0) (p1 : P u1) (p2 : P u2) (p3 : P u3) (p4 : P u4) (p5 : P u5) (p6 : P u6) (p7 : P u7) (p8 : P u8) : ∀ y ∈ [u0, u1, u2, u3, u4, u5, u6, u7, u8], P y := by
  intro y hy
  simp only [List.mem_cons, List.not_mem_nil, or_false] at hy
  rcases hy with rfl | rfl | rfl | rfl | rfl | rfl | rfl | rfl | rfl <;> assumption
theorem o_L.set_limits (L : o_L Z h n0 a A C) {b0 b1 : Nat} (W : Wr h h' A.l sl v) (V : Arv Z h' A.l A.kl .long 2 [.long (o_lim b0), .long (o_lim b1)] (.long 0)) : o_L Z h' n0 a A ⟨b0, b1, C.P, C.xs, C.ts⟩ := by
  obtain ⟨n01, n02, n03, n04, n05, n06, n07, n08, n12, n13, n14, n15, n16, n17, n18, n23, n24, n25, n26, n27, n28, n34, n35, n36, n37, n38, n45, n46, n47, n48, n56, n57, n58, n67, n68, n78⟩ := o_nd36 L.nd
  exact ⟨L.nd, L.ge, L.E.wr W, L.f_limits.other W (Or.inl n01), L.f_places.other W (Or.inl n01), L.f_lows.other W (Or.inl n01), L.f_masks.other W (Or.inl n01), L.f_words.other W (Or.inl n01), L.f_shifts.other W (Or.inl n01), L.f_nexts.other W (Or.inl n01), L.f_tops.other W (Or.inl n01), L.f_pieces.other W (Or.inl n01), L.f_length.other W (Or.inl n01), V, L.v_places.other W (Ne.symm n12), L.v_lows.other W (Ne.symm n13), L.v_masks.other W (Ne.symm n14), L.v_words.other W (Ne.symm n15), L.v_shifts.other W (Ne.symm n16), L.v_nexts.other W (Ne.symm n17), L.v_tops.other W (Ne.symm n18)⟩
theorem o_L.set_nexts (L : o_L Z h n0 a A C) {xs : List Int32} (W : Wr h h' A.x sl v) (V : Arv Z h' A.x A.kx .int (n32 (o_cap C.P.length)) (xs.map Value.int) (.int 0)) : o_L Z h' n0 a A ⟨C.b0, C.b1, C.P, xs, C.ts⟩ := by
  obtain ⟨n01, n02, n03, n04, n05, n06, n07, n08, n12, n13, n14, n15, n16, n17, n18, n23, n24, n25, n26, n27, n28, n34, n35, n36, n37, n38, n45, n46, n47, n48, n56, n57, n58, n67, n68, n78⟩ := o_nd36 L.nd
  exact ⟨L.nd, L.ge, L.E.wr W, L.f_limits.other W (Or.inl n07), L.f_places.other W (Or.inl n07), L.f_lows.other W (Or.inl n07), L.f_masks.other W (Or.inl n07), L.f_words.other W (Or.inl n07), L.f_shifts.other W (Or.inl n07), L.f_nexts.other W (Or.inl n07), L.f_tops.other W (Or.inl n07), L.f_pieces.other W (Or.inl n07), L.f_length.other W (Or.inl n07), L.v_limits.other W n17, L.v_places.other W n27, L.v_lows.other W n37, L.v_masks.other W n47, L.v_words.other W n57, L.v_shifts.other W n67, V, L.v_tops.other W (Ne.symm n78)⟩
theorem o_L.toM (L : o_L Z h n0 a A C) {J : Nat} (q : J < C.ts.length) : o_M Z h n0 a A C (o_cap C.P.length) (o_cap C.ts.length) C.ts.length (o_ts1 C.ts J) := by
  rw [o_ts1, if_pos q]; exact L
theorem o_ninS {H : Heap} {A' : o_A} (q : y ∉ a :: A.all) (l : y < H.size) (s : ∀ z ∈ a :: A'.all, z ∈ a :: A.all ∨ H.size ≤ z) : y ∉ a :: A'.all := fun z => (s y z).elim q (fun k => absurd l (Nat.not_lt.mpr k))
theorem o_ninI {H : Heap} (n : y ≠ a) (l : y < H.size) (s : ∀ z ∈ A.all, H.size ≤ z) : y ∉ a :: A.all := fun z => (List.mem_cons.mp z).elim n (fun k => absurd l (Nat.not_lt.mpr (s y k)))
end Lay

def o_mx (a b : Int32) : Int32 := if a < b then b else a
def o_mn (a b : Int32) : Int32 := if b < a then b else a
def o_k1 (x : Int64) : Int64 := x - ((x.toUInt64 >>> (1 : UInt64)).toInt64 &&& (6148914691236517205 : Int64))
def o_k2 (x : Int64) : Int64 := (x &&& (3689348814741910323 : Int64)) + ((x.toUInt64 >>> (2 : UInt64)).toInt64 &&& (3689348814741910323 : Int64))
def o_k4 (x : Int64) : Int64 := (x + (x.toUInt64 >>> (4 : UInt64)).toInt64) &&& (1085102592571150095 : Int64)
def o_k8 (x : Int64) : Int64 := x + (x.toUInt64 >>> (8 : UInt64)).toInt64
def o_k16 (x : Int64) : Int64 := x + (x.toUInt64 >>> (16 : UInt64)).toInt64
def o_k32 (x : Int64) : Int64 := x + (x.toUInt64 >>> (32 : UInt64)).toInt64
def o_bc (x : Int64) : Int32 := (o_k32 (o_k16 (o_k8 (o_k4 (o_k2 (o_k1 x)))))).toInt32 &&& (127 : Int32)
theorem o_bcm : ∀ w : Fin 64, o_bc (o_mk (n32 (w.val + 1))) = n32 (w.val + 1) := by decide +kernel
theorem o_bcl {b : Nat} (h1 : 1 ≤ b) (h2 : b ≤ 64) : o_bc (o_lim b) = n32 b := by
  unfold o_lim
  rw [if_neg (by omega)]
  have := o_bcm ⟨b - 1, by omega⟩
  simp only [Nat.sub_add_cancel h1] at this
  exact this
theorem o_capv (k : Nat) (h : k ≤ 8) : k ≤ o_cap k ∧ o_cap k ≤ 8 ∧ 2 ≤ o_cap k ∧ (k < o_cap k → o_cap (k + 1) = o_cap k) ∧ (k = o_cap k → k < 8 → o_cap (k + 1) = 2 * k) := by
  unfold o_cap
  rcases (show k = 0 ∨ k = 1 ∨ k = 2 ∨ k = 3 ∨ k = 4 ∨ k = 5 ∨ k = 6 ∨ k = 7 ∨ k = 8 by omega) with rfl | rfl | rfl | rfl | rfl | rfl | rfl | rfl | rfl <;> decide
theorem o_n2 (a : Nat) : (2 : Int32) * n32 a = n32 (2 * a) := (Int32.ofNat_mul 2 a).symm
theorem o_mx1 {a : Nat} (h : 1 ≤ a) (h2 : a < 100) : o_mx 1 (n32 a) = n32 a := by
  unfold o_mx
  split
  · rfl
  · rename_i q
    rw [show (1 : Int32) = n32 1 from rfl, o_nlt (by omega) (by omega)] at q
    rw [show a = 1 by omega]; rfl
theorem o_mnl {a b : Nat} (h : a < b) (h2 : b < 100) : o_mn (n32 a) (n32 b) = n32 a := by
  unfold o_mn
  rw [if_neg]
  rw [o_nlt (by omega) (by omega)]; omega
theorem o_ach {n u : Nat} (h1 : n < u) (h2 : u ≤ 8) (vs : List Value) (d : Value) : ¬ (0 : Int32) < 0 ∧ ¬ (0 : Int32) < 0 ∧ ¬ n32 n < 0 ∧ (0 : Int32).toNatClampNeg + (n32 n).toNatClampNeg ≤ (n32 n).toNatClampNeg ∧ (0 : Int32).toNatClampNeg + (n32 n).toNatClampNeg ≤ (n32 u).toNatClampNeg ∧ ((List.range (n32 n).toNatClampNeg).map fun i => vs.getD ((0 : Int32).toNatClampNeg + i) d) = ((List.range (n32 n).toNatClampNeg).map fun i => vs.getD ((0 : Int32).toNatClampNeg + i) d) ∧ (0 : Int32).toNatClampNeg + (n32 n).toNatClampNeg ≤ ([] ++ List.replicate n d).length := by
  rw [o_nt (show n < 2147483648 by omega), o_nt (show u < 2147483648 by omega), show (0 : Int32).toNatClampNeg = 0 from rfl]
  exact ⟨by decide, by decide, o_n0 (by omega), by omega, by omega, rfl, by simp⟩
theorem o_acl {n : Nat} (hn : n ≤ 8) (vs : List Value) (d : Value) (h : vs.length ≤ n) (i : Nat) : vs.getD i d = (([] ++ List.replicate n d).take (0 : Int32).toNatClampNeg ++ ((List.range (n32 n).toNatClampNeg).map fun i => vs.getD ((0 : Int32).toNatClampNeg + i) d) ++ ([] ++ List.replicate n d).drop ((0 : Int32).toNatClampNeg + (n32 n).toNatClampNeg)).getD i d := by
  rw [o_nt (show n < 2147483648 by omega), show (0 : Int32).toNatClampNeg = 0 from rfl]
  simp only [List.take_zero, List.nil_append, Nat.zero_add, List.drop_replicate, Nat.sub_self, List.replicate_zero, List.append_nil]
  rw [List.getD_eq_getElem?_getD (l := List.map _ _), List.getElem?_map]
  by_cases q : i < n
  · rw [List.getElem?_range q]; rfl
  · rw [List.getElem?_eq_none (by simp; omega), List.getD_eq_getElem?_getD, List.getElem?_eq_none (by omega)]; rfl
theorem o_snoc {α : Type} (f : α → Value) (L : List α) (q : α) (d : Value) : (L.map f ++ List.replicate 1 d).set L.length (f q) = (L ++ [q]).map f := by
  have e : L.length = (L.map f).length := by simp
  rw [e, List.set_append_right _ _ (Nat.le_refl _)]
  simp
theorem o_mgd (ts : List Nat) (i : Nat) : (ts.map fun t => Value.int (n32 t)).getD i (.int 0) = .int (n32 (ts.getD i 0)) := by
  rw [List.getD_eq_getElem?_getD, List.getElem?_map, List.getD_eq_getElem?_getD]
  cases ts[i]? <;> rfl
theorem o_padT {ts : List Nat} {J : Nat} (h : ¬ J < ts.length) : ∀ i, ((o_ts1 ts J).map fun t => Value.int (n32 t)).getD i (.int 0) = (ts.map fun t => Value.int (n32 t)).getD i (.int 0) := fun i => by
  unfold o_ts1
  rw [if_neg h, List.map_append]
  exact pad_rep _ _ 1 i
theorem o_tsG (ts : List Nat) (w : Nat) : ((o_ts1 ts (o_ff ts w)).map fun t => Value.int (n32 t)).getD (o_ff ts w) (.int 0) = .int (n32 (ts.getD (o_ff ts w) 0)) := by
  by_cases h : o_ff ts w < ts.length
  · unfold o_ts1; rw [if_pos h]; exact o_mgd ts _
  · rw [o_padT h]; exact o_mgd ts _
theorem o_tsS (ts : List Nat) (w : Nat) : ((o_ts1 ts (o_ff ts w)).map fun t => Value.int (n32 t)).set (o_ff ts w) (.int (n32 (ts.getD (o_ff ts w) 0 + w))) = (o_ts ts w).map fun t => Value.int (n32 t) := by
  unfold o_ts
  rw [List.map_set]
theorem o_tsH (ts : List Nat) (w : Nat) : o_ff ts w < ((o_ts1 ts (o_ff ts w)).map fun t => Value.int (n32 t)).length := by
  have := o_ff_le ts w
  unfold o_ts1
  rw [List.length_map]
  split
  · assumption
  · rw [List.length_append, List.length_singleton]; omega
theorem o_tsF (ts : List Nat) (w : Nat) (h : o_ff ts w < ts.length) : (ts.map fun t => Value.int (n32 t)).set (o_ff ts w) (.int (n32 (ts.getD (o_ff ts w) 0 + w))) = (o_ts ts w).map fun t => Value.int (n32 t) := by
  unfold o_ts o_ts1
  rw [if_pos h, List.map_set]
theorem o_tsN (ts : List Nat) (w : Nat) (h : o_ff ts w = ts.length) : ((ts.map fun t => Value.int (n32 t)) ++ List.replicate 1 (Value.int 0)).set (o_ff ts w) (.int (n32 (ts.getD (o_ff ts w) 0 + w))) = (o_ts ts w).map fun t => Value.int (n32 t) := by
  unfold o_ts o_ts1
  rw [if_neg (by omega), List.map_set, List.map_append]; rfl
theorem o_ix {i z : Nat} (h : i < z) (b : z < 2147483648) : ¬ n32 i < 0 ∧ n32 i < n32 z := ⟨o_n0 (by omega), (o_nlt (by omega) b).mpr h⟩
theorem o_ltT {i z : Nat} (h : i < z) (b : z < 2147483648) : n32 i < n32 z := (o_ix h b).2
theorem o_ltF {i z : Nat} (h : z ≤ i) (b : i < 2147483648) : ¬ n32 i < n32 z := fun q => absurd ((o_nlt b (by omega)).mp q) (by omega)
theorem o_eqF {i z : Nat} (h : i < z) (b : z < 2147483648) : ¬ n32 i = n32 z := fun q => absurd ((o_neq (by omega) b).mp q) (by omega)
theorem o_bnd {C : o_C} (I : o_Inv C) (hn : C.P.length ≤ 5) : C.ts.length ≤ 5 ∧ C.ts.length < 2147483648 ∧ o_cap C.ts.length < 2147483648 ∧ C.ts.length ≤ o_cap C.ts.length ∧ C.P.length < 2147483648 ∧ o_cap C.P.length < 2147483648 ∧ C.P.length ≤ o_cap C.P.length := by
  have a := I.tl
  have b := o_capv C.ts.length (by omega); have d := o_capv C.P.length (by omega)
  refine ⟨?_, ?_, ?_, ?_, ?_, ?_, ?_⟩ <;> omega
theorem o_gr {k : Nat} (h : k ≤ 5) (e : n32 k = n32 (o_cap k)) : k = o_cap k ∧ o_cap (k + 1) = 2 * k ∧ o_cap k < 2 * k ∧ 2 * k ≤ 8 ∧ k < 2 * k ∧ 1 ≤ 2 * k ∧ 2 * k < 100 ∧ 2 * k < 2147483648 := by
  have b := o_capv k (by omega)
  have q := (o_neq (by omega) (by omega)).mp e
  have g := b.2.2.2.2 q (by omega)
  have g8 := (o_capv (k + 1) (by omega)).2.1
  refine ⟨q, g, ?_, ?_, ?_, ?_, ?_, ?_⟩ <;> omega
theorem o_ng {k : Nat} (h : k ≤ 5) (e : ¬ n32 k = n32 (o_cap k)) : k < o_cap k ∧ o_cap (k + 1) = o_cap k := by
  have b := o_capv k (by omega)
  have q : k < o_cap k := Nat.lt_of_le_of_ne b.1 (fun z => e (congrArg n32 z))
  exact ⟨q, b.2.2.2.1 q⟩
theorem o_fit {C : o_C} (I : o_Inv C) {wd i : Nat} (hwd : wd ≤ 64) : (64 : Int32) < n32 (C.ts.getD i 0 + wd) ↔ ¬ C.ts.getD i 0 + wd ≤ 64 := by
  have := I.top i
  rw [show (64 : Int32) = n32 64 from rfl, o_nlt (by omega) (by omega)]; omega
theorem o_mkL {Z : State} {h : Heap} {n0 : Nat} {a : Addr} {A : o_A} {C : o_C} {pl lo wd : Nat} (zP zT tl : Nat) (hzP : o_cap (C.P.length + 1) = zP) (hzT : o_cap (o_ts C.ts wd).length = zT) (htl : (o_ts C.ts wd).length = tl) (nd : (a :: A.all).Nodup) (ge : ∀ y ∈ a :: A.all, n0 ≤ y) (E : Exa Z h a "com/example/marke/marke/analysis/MarkingLayout") (f_limits : Fld Z h a "com/example/marke/marke/analysis/MarkingLayout" "limits" "[J" (.ref A.l)) (f_places : Fld Z h a "com/example/marke/marke/analysis/MarkingLayout" "places" "[I" (.ref A.p)) (f_lows : Fld Z h a "com/example/marke/marke/analysis/MarkingLayout" "lows" "[I" (.ref A.lo)) (f_masks : Fld Z h a "com/example/marke/marke/analysis/MarkingLayout" "masks" "[J" (.ref A.m)) (f_words : Fld Z h a "com/example/marke/marke/analysis/MarkingLayout" "words" "[I" (.ref A.w)) (f_shifts : Fld Z h a "com/example/marke/marke/analysis/MarkingLayout" "shifts" "[I" (.ref A.s)) (f_nexts : Fld Z h a "com/example/marke/marke/analysis/MarkingLayout" "nexts" "[I" (.ref A.x)) (f_tops : Fld Z h a "com/example/marke/marke/analysis/MarkingLayout" "tops" "[I" (.ref A.t)) (f_pieces : Fld Z h a "com/example/marke/marke/analysis/MarkingLayout" "pieces" "I" (.int (n32 (C.P.length + 1)))) (f_length : Fld Z h a "com/example/marke/marke/analysis/MarkingLayout" "length" "I" (.int (n32 tl))) (v_limits : Arv Z h A.l A.kl .long 2 [.long (o_lim C.b0), .long (o_lim C.b1)] (.long 0)) (v_places : Arv Z h A.p A.kp .int (n32 zP) ((C.P ++ [o_pc C pl lo wd]).map fun (q : o_P) => .int (n32 q.pl)) (.int 0)) (v_lows : Arv Z h A.lo A.ko .int (n32 zP) ((C.P ++ [o_pc C pl lo wd]).map fun (q : o_P) => .int (n32 q.lo)) (.int 0)) (v_masks : Arv Z h A.m A.km .long (n32 zP) ((C.P ++ [o_pc C pl lo wd]).map fun (q : o_P) => .long (o_mk (n32 q.wd))) (.long 0)) (v_words : Arv Z h A.w A.kw .int (n32 zP) ((C.P ++ [o_pc C pl lo wd]).map fun (q : o_P) => .int (n32 q.wo)) (.int 0)) (v_shifts : Arv Z h A.s A.ks .int (n32 zP) ((C.P ++ [o_pc C pl lo wd]).map fun (q : o_P) => .int (n32 q.sh)) (.int 0)) (v_nexts : Arv Z h A.x A.kx .int (n32 zP) (C.xs.map Value.int) (.int 0)) (v_tops : Arv Z h A.t A.kt .int (n32 zT) ((o_ts C.ts wd).map fun t => .int (n32 t)) (.int 0)) : o_L Z h n0 a A (o_add C pl lo wd) := by
  subst hzP hzT htl
  have e : (o_add C pl lo wd).P.length = C.P.length + 1 := by show (C.P ++ [_]).length = _; simp
  exact ⟨nd, ge, E, f_limits, f_places, f_lows, f_masks, f_words, f_shifts, f_nexts, f_tops, by rw [e]; exact f_pieces, f_length, v_limits, by rw [e]; exact v_places, by rw [e]; exact v_lows, by rw [e]; exact v_masks, by rw [e]; exact v_words, by rw [e]; exact v_shifts, by rw [e]; exact v_nexts.pad (fun i => by rw [show ((o_add C pl lo wd).xs.map Value.int) = C.xs.map Value.int ++ List.replicate 1 (.int 0) from by show (C.xs ++ [0]).map Value.int = _; simp]; exact pad_rep _ _ 1 i), v_tops⟩

def o_sl (y : Slot) : Prop := y = .unset ∨ ∃ i : Int32, y = .val (.int i)
theorem o_sl5 {x0 x1 x2 x3 x4 x5 x6 x7 x8 : Slot} {v : Int32} (h : o_sl x5) : storeLocals #[x0, x1, x2, x3, x4, x5, x6, x7, x8] 5 (.int v) = some #[x0, x1, x2, x3, x4, .val (.int v), x6, x7, x8] := by rcases h with rfl | ⟨i, rfl⟩ <;> rfl
theorem o_sl6 {x0 x1 x2 x3 x4 x5 x6 x7 x8 : Slot} {v : Int32} (h : o_sl x6) : storeLocals #[x0, x1, x2, x3, x4, x5, x6, x7, x8] 6 (.int v) = some #[x0, x1, x2, x3, x4, x5, .val (.int v), x7, x8] := by rcases h with rfl | ⟨i, rfl⟩ <;> rfl
theorem o_sl7 {x0 x1 x2 x3 x4 x5 x6 x7 x8 : Slot} {v : Int32} (h : o_sl x7) : storeLocals #[x0, x1, x2, x3, x4, x5, x6, x7, x8] 7 (.int v) = some #[x0, x1, x2, x3, x4, x5, x6, .val (.int v), x8] := by rcases h with rfl | ⟨i, rfl⟩ <;> rfl
theorem o_sl8 {x0 x1 x2 x3 x4 x5 x6 x7 x8 : Slot} {v : Int32} (h : o_sl x8) : storeLocals #[x0, x1, x2, x3, x4, x5, x6, x7, x8] 8 (.int v) = some #[x0, x1, x2, x3, x4, x5, x6, x7, .val (.int v)] := by rcases h with rfl | ⟨i, rfl⟩ <;> rfl
theorem o_ninG {H : Heap} {a y : Addr} {A' : o_A} {ws : List Addr} (q : y ∉ ws) (l : y < H.size) (s : ∀ z ∈ a :: A'.all, z ∈ ws ∨ H.size ≤ z) : y ∉ a :: A'.all := fun z => (s y z).elim q (fun k => absurd l (Nat.not_lt.mpr k))
theorem o_subT {H h0 : Heap} {a : Addr} {A' : o_A} {ws ws' : List Addr} (s : ∀ y ∈ ws', y ∈ ws ∨ h0.size ≤ y) (q : ∀ y ∈ a :: A'.all, y ∈ ws' ∨ H.size ≤ y) (g : h0.size ≤ H.size) : ∀ y ∈ a :: A'.all, y ∈ ws ∨ h0.size ≤ y := fun y hy => (q y hy).elim (s y) (fun k => Or.inr (Nat.le_trans g k))
abbrev o_D0 : o_C := ⟨1, 0, [], [], []⟩
abbrev o_D1 : o_C := ⟨1, 0, [o_q0], [0], [1]⟩
abbrev o_D2 : o_C := ⟨1, 0, [o_q0], [-1], [1]⟩
abbrev o_D3 : o_C := ⟨1, 1, [o_q0], [-1], [1]⟩
abbrev o_D4 : o_C := ⟨1, 1, [o_q0, o_q1], [-1, 0], [2]⟩
abbrev o_C1 : o_C := ⟨1, 1, [o_q0, o_q1], [-1, -1], [2]⟩
theorem o_eD1 : o_add o_D0 0 0 1 = o_D1 := rfl
theorem o_eD4 : o_add o_D3 1 0 1 = o_D4 := rfl
theorem o_lim1 : o_lim 1 = 1 := by decide +kernel
theorem o_gd0 (v : Nat) : ([] : List Nat).getD v 0 = 0 := by simp
theorem o_inv0 : o_Inv o_D0 := ⟨rfl, Nat.le_refl _, fun w => by rw [o_gd0]; omega, fun q h => (nomatch h), fun q h => (nomatch h), fun q h => (nomatch h)⟩
theorem o_inv3 : o_Inv o_D3 := by
  have := o_inv0.add 0 0 1 (by decide) (by decide) (by decide)
  rw [o_eD1] at this
  exact ⟨rfl, this.tl, this.top, this.fld, this.lo, this.dis⟩
theorem o_inv1 : o_Inv o_C1 := by
  have := o_inv3.add 1 0 1 (by decide) (by decide) (by decide)
  rw [o_eD4] at this
  exact ⟨rfl, this.tl, this.top, this.fld, this.lo, this.dis⟩
theorem o_ok1 : o_Ok o_C1 := ⟨o_inv1, by decide, by decide, fun p i hp => by
  rcases (show p = 0 ∨ p = 1 by omega) with rfl | rfl
  · show ((decide ((0 : Nat) = 0) && (decide (0 ≤ i) && decide (i < 0 + 1))) || ((decide ((1 : Nat) = 0) && (decide (0 ≤ i) && decide (i < 0 + 1))) || false)) = decide (i < 1)
    simp
  · show ((decide ((0 : Nat) = 1) && (decide (0 ≤ i) && decide (i < 0 + 1))) || ((decide ((1 : Nat) = 1) && (decide (0 ≤ i) && decide (i < 0 + 1))) || false)) = decide (i < 1)
    simp, ⟨[], rfl⟩⟩
theorem o_pad2 (d : Value) : ∀ i, ([] : List Value).getD i d = [d, d].getD i d
  | 0 => rfl
  | 1 => rfl
  | i + 2 => by simp
theorem o_mn2 {a : Nat} (h : a < 2147483648) : o_mn (n32 a) 64 = n32 (min a 64) := by
  unfold o_mn
  rw [show (64 : Int32) = n32 64 from rfl]
  by_cases q : n32 64 < n32 a
  · rw [if_pos q]
    rw [o_nlt (by omega) h] at q
    rw [Nat.min_eq_right (by omega)]
  · rw [if_neg q]
    rw [o_nlt (by omega) h] at q
    rw [Nat.min_eq_left (by omega)]
theorem o_mx2 {a b : Nat} (ha : a ≤ 64) (hb : b ≤ 64) : o_mx (n32 a) (n32 b) = n32 (max a b) := by
  unfold o_mx
  by_cases q : n32 a < n32 b
  · rw [if_pos q]
    rw [o_nlt (by omega) (by omega)] at q
    rw [Nat.max_eq_right (by omega)]
  · rw [if_neg q]
    rw [o_nlt (by omega) (by omega)] at q
    rw [Nat.max_eq_left (by omega)]
theorem o_xgd (xs : List Int32) (i : Nat) : (xs.map Value.int).getD i (.int 0) = .int (xs.getD i 0) := by
  rw [List.getD_eq_getElem?_getD, List.getElem?_map, List.getD_eq_getElem?_getD]
  cases xs[i]? <;> rfl
theorem o_xset (xs : List Int32) (i : Nat) (v : Int32) : (xs.map Value.int).set i (.int v) = (xs.set i v).map Value.int := List.map_set.symm
theorem o_lim_mk {b : Nat} (h : 0 < b) : o_mk (n32 b) = o_lim b := by unfold o_lim; rw [if_neg (by omega)]
theorem o_stT {p : Nat} {C : o_C} {m : Int64} (h : o_need m (o_bp C p)) : o_up C p (o_wi (m + 1) (o_bp C p)) (o_add C p (o_bp C p) (o_wi (m + 1) (o_bp C p) - o_bp C p)) = o_st p C m := (if_pos h).symm
theorem o_stF {p : Nat} {C : o_C} {m : Int64} (h : ¬ o_need m (o_bp C p)) : C = o_st p C m := (if_neg h).symm
theorem o_len2 {C : o_C} (O : o_Ok C) : 2 ≤ C.P.length := by obtain ⟨R, h⟩ := O.fst; rw [h]; simp
theorem o_wx {C : o_C} {pl b w : Nat} (O : o_Ok C) (hn : C.P.length ≤ 5) (h1 : 1 ≤ b) (h2 : b < w) (h3 : w ≤ 64) : 2 * b < 2147483648 ∧ w < 2147483648 ∧ w - b ≤ 64 ∧ (∀ i : Nat, i < 2 → ¬ n32 i < 0 ∧ n32 i < n32 (o_cap (o_add C pl b (w - b)).P.length)) ∧ C.P.length < 2147483648 ∧ (¬ n32 C.P.length < 0 ∧ n32 C.P.length < n32 (o_cap (o_add C pl b (w - b)).P.length)) ∧ C.P.length < ((o_add C pl b (w - b)).xs.map Value.int).length ∧ (∀ (i : Nat) (v : Int32), i < 2 → i < (((o_add C pl b (w - b)).xs.set C.P.length v).map Value.int).length) := by
  have I := O.inv; have h2l := o_len2 O
  have e : (o_add C pl b (w - b)).P.length = C.P.length + 1 := by show (C.P ++ [_]).length = _; simp
  have ex : (o_add C pl b (w - b)).xs.length = C.P.length + 1 := by show (C.xs ++ [0]).length = _; simp [I.len]
  have c := o_capv (C.P.length + 1) (by omega)
  rw [e]
  refine ⟨by omega, by omega, by omega, fun i hi => o_ix (by omega) (by omega), by omega, o_ix (by omega) (by omega), ?_, fun i v hi => ?_⟩
  · rw [List.length_map, ex]; omega
  · rw [List.length_map, List.length_set, ex]; omega
theorem o_mk0 {Z : State} {h : Heap} {n0 : Nat} {a : Addr} {A : o_A} (nd : (a :: A.all).Nodup) (ge : ∀ y ∈ a :: A.all, n0 ≤ y) (E : Exa Z h a "com/example/marke/marke/analysis/MarkingLayout") (f_limits : Fld Z h a "com/example/marke/marke/analysis/MarkingLayout" "limits" "[J" (.ref A.l)) (f_places : Fld Z h a "com/example/marke/marke/analysis/MarkingLayout" "places" "[I" (.ref A.p)) (f_lows : Fld Z h a "com/example/marke/marke/analysis/MarkingLayout" "lows" "[I" (.ref A.lo)) (f_masks : Fld Z h a "com/example/marke/marke/analysis/MarkingLayout" "masks" "[J" (.ref A.m)) (f_words : Fld Z h a "com/example/marke/marke/analysis/MarkingLayout" "words" "[I" (.ref A.w)) (f_shifts : Fld Z h a "com/example/marke/marke/analysis/MarkingLayout" "shifts" "[I" (.ref A.s)) (f_nexts : Fld Z h a "com/example/marke/marke/analysis/MarkingLayout" "nexts" "[I" (.ref A.x)) (f_tops : Fld Z h a "com/example/marke/marke/analysis/MarkingLayout" "tops" "[I" (.ref A.t)) (f_pieces : Fld Z h a "com/example/marke/marke/analysis/MarkingLayout" "pieces" "I" (.int 0)) (f_length : Fld Z h a "com/example/marke/marke/analysis/MarkingLayout" "length" "I" (.int 0)) (v_limits : Arv Z h A.l A.kl .long 2 [.long 1, .long 0] (.long 0)) (v_places : Arv Z h A.p A.kp .int 2 [.int 0, .int 0] (.int 0)) (v_lows : Arv Z h A.lo A.ko .int 2 [.int 0, .int 0] (.int 0)) (v_masks : Arv Z h A.m A.km .long 2 [.long 0, .long 0] (.long 0)) (v_words : Arv Z h A.w A.kw .int 2 [.int 0, .int 0] (.int 0)) (v_shifts : Arv Z h A.s A.ks .int 2 [.int 0, .int 0] (.int 0)) (v_nexts : Arv Z h A.x A.kx .int 2 [.int 0, .int 0] (.int 0)) (v_tops : Arv Z h A.t A.kt .int 2 [.int 0, .int 0] (.int 0)) : o_L Z h n0 a A o_D0 :=
  ⟨nd, ge, E, f_limits, f_places, f_lows, f_masks, f_words, f_shifts, f_nexts, f_tops, f_pieces, f_length, by rw [show o_lim o_D0.b0 = 1 from o_lim1]; exact v_limits, v_places.pad (o_pad2 _), v_lows.pad (o_pad2 _), v_masks.pad (o_pad2 _), v_words.pad (o_pad2 _), v_shifts.pad (o_pad2 _), v_nexts.pad (o_pad2 _), v_tops.pad (o_pad2 _)⟩

theorem o_lgd (xs : List Int64) (i : Nat) : (xs.map Value.long).getD i (.long 0) = .long (xs.getD i 0) := by
  rw [List.getD_eq_getElem?_getD, List.getElem?_map, List.getD_eq_getElem?_getD]
  cases xs[i]? <;> rfl
theorem o_lset (xs : List Int64) (i : Nat) (v : Int64) : (xs.map Value.long).set i (.long v) = (xs.set i v).map Value.long := List.map_set.symm
theorem o_pgd (f : o_P → Value) {P : List o_P} {j : Nat} {q : o_P} (d : Value) (h : j < P.length) (e : P.getD j o_q0 = q) : (P.map f).getD j d = f q := by
  subst e
  rw [List.getD_eq_getElem?_getD, List.getElem?_map, List.getD_eq_getElem?_getD, List.getElem?_eq_getElem h]; rfl
theorem o_zS (L : List Int64) (i : Nat) : ((o_z L i).map Value.long).set i (.long 0) = (o_z L (i + 1)).map Value.long := o_lset _ _ _
theorem o_shr0 (c : Int64) : o_shr c (n32 0) = c := by
  apply o_bext
  intro i hi
  rw [o_bshr _ (by decide), Nat.zero_add]
theorem o_fvz {q : o_P} (h : q.lo = 0) (h1 : q.wd = 1) (c : Int64) : c &&& o_mk (n32 1) = o_fv c q := by unfold o_fv; rw [h, h1, o_shr0]
def o_by1 (C : o_C) (m0 : Int64) : Int64 := (0 : Int64) ||| ((m0 + (1 : Int64)) &&& (o_lim C.b0 ^^^ (-1 : Int64)))
def o_by (C : o_C) (m0 m1 : Int64) : Int64 := o_by1 C m0 ||| ((m1 + (1 : Int64)) &&& (o_lim C.b1 ^^^ (-1 : Int64)))
def o_pr (C : o_C) (m0 m1 : Int64) : Int32 := if o_by C m0 m1 = 0 then 1 else 0
theorem o_pk2 {C : o_C} {R : List o_P} (h : C.P = o_q0 :: o_q1 :: R) (L : List Int64) (m0 m1 : Int64) : o_pkP (C.P.take 2) L m0 m1 = o_ins (o_ins L o_q0 (o_fv (m0 + (1 : Int64)) o_q0)) o_q1 (o_fv (m1 + (1 : Int64)) o_q1) := by rw [h]; rfl
theorem o_takeS {P : List o_P} {j : Nat} {q : o_P} (h : j < P.length) (e : P.getD j o_q0 = q) : P.take (j + 1) = P.take j ++ [q] := by
  subst e
  rw [List.take_add_one, List.getElem?_eq_getElem h, List.getD_eq_getElem?_getD, List.getElem?_eq_getElem h]; rfl
theorem o_pkS {P : List o_P} {j : Nat} {q : o_P} (h : j < P.length) (e : P.getD j o_q0 = q) (L : List Int64) (m0 m1 : Int64) : ((o_pkP (P.take j) L m0 m1).map Value.long).set q.wo (.long ((o_pkP (P.take j) L m0 m1).getD q.wo 0 ||| o_shl (o_fv (o_cd m0 m1 q.pl) q) (n32 q.sh))) = (o_pkP (P.take (j + 1)) L m0 m1).map Value.long := by
  rw [o_lset, o_takeS h e]; unfold o_pkP; rw [List.foldl_append]; rfl
theorem o_m2v {m0 m1 : Int64} : ∀ {p : Nat}, p < 2 → [Value.long m0, Value.long m1].getD p (.long 0) = .long (if p = 0 then m0 else m1)
  | 0, _ => rfl
  | 1, _ => rfl
theorem o_piece {C : o_C} (O : o_Ok C) {j : Nat} (h : j < C.P.length) : ∃ q : o_P, C.P.getD j o_q0 = q ∧ q ∈ C.P ∧ q.pl < 2 ∧ q.wo < C.ts.length := by
  have hm : C.P.getD j o_q0 ∈ C.P := by rw [List.getD_eq_getElem?_getD, List.getElem?_eq_getElem h]; exact List.getElem_mem h
  exact ⟨_, rfl, hm, (O.inv.lo _ hm).2, (O.inv.fld _ hm).1⟩
theorem o_pb {C : o_C} {u : Nat} (O : o_Ok C) (hn : C.P.length ≤ 6) (hu : C.ts.length ≤ u) (hu8 : u ≤ 12) : C.ts.length < 2147483648 ∧ u < 2147483648 ∧ C.P.length < 2147483648 ∧ C.P.length ≤ o_cap C.P.length ∧ o_cap C.P.length < 2147483648 ∧ 0 < C.ts.length ∧ 0 < u ∧ (∀ i : Nat, i < 2 → ¬ n32 i < 0 ∧ n32 i < n32 (o_cap C.P.length)) ∧ 2 ≤ C.P.length := by
  have c := o_capv C.P.length (by omega)
  obtain ⟨R0, hR0⟩ := O.fst
  have h0 : 0 < C.ts.length := (O.inv.fld o_q0 (by rw [hR0]; exact List.mem_cons_self ..)).1
  exact ⟨by omega, by omega, by omega, c.1, by omega, h0, by omega, fun i hi => o_ix (by omega) (by omega), o_len2 O⟩
def o_G (L : List Int64) (f w : Nat) : Int64 := L.getD (f + w) 0
theorem o_un2 (G : Nat → Int64) (s : Nat) (P : List o_P) (L : List Int64) : o_un G s ((P.take 2).drop 2) L = L := by
  rw [List.drop_take]; rfl
theorem o_unT {P : List o_P} {j : Nat} {q : o_P} (h : j < P.length) (h2 : 2 ≤ j) (e : P.getD j o_q0 = q) (G : Nat → Int64) (s : Nat) (L : List Int64) : o_un G s ((P.take (j + 1)).drop 2) L = o_us G s (o_un G s ((P.take j).drop 2) L) q := by
  rw [o_takeS h e, List.drop_append_of_le_length (by rw [List.length_take]; omega), o_un, List.foldl_append]; rfl
theorem o_un1 {P : List o_P} {j : Nat} {q : o_P} (h : j < P.length) (h2 : 2 ≤ j) (e : P.getD j o_q0 = q) (G : Nat → Int64) {s : Nat} (L : List Int64) (hs : q.wo < s) : ((o_un G s ((P.take j).drop 2) L).map Value.long).set q.pl (.long ((o_un G s ((P.take j).drop 2) L).getD q.pl 0 ||| o_shl (o_ex (G q.wo) q) (n32 q.lo))) = (o_un G s ((P.take (j + 1)).drop 2) L).map Value.long := by
  rw [o_lset, o_unT h h2 e, o_us, if_pos hs]
theorem o_un0 {P : List o_P} {j : Nat} {q : o_P} (h : j < P.length) (h2 : 2 ≤ j) (e : P.getD j o_q0 = q) (G : Nat → Int64) {s : Nat} (L : List Int64) (hs : ¬ q.wo < s) : o_un G s ((P.take (j + 1)).drop 2) L = o_un G s ((P.take j).drop 2) L := by
  rw [o_unT h h2 e, o_us, if_neg hs]
theorem o_two (L : List Int64) (h : L.length = 2) : L.map Value.long = [.long (L.getD 0 0), .long (L.getD 1 0)] := by
  match L, h with
  | [a, b], _ => rfl
def o_uv (C : o_C) (L : List Int64) (f s p : Nat) : Int64 := (o_un (o_G L f) s (C.P.drop 2) [o_ex (o_G L f 0) o_q0, o_ex (o_G L f 0) o_q1]).getD p 0
theorem o_uvL {C : o_C} {L : List Int64} {f s j : Nat} (h : j = C.P.length) : (o_un (o_G L f) s ((C.P.take j).drop 2) [o_ex (o_G L f 0) o_q0, o_ex (o_G L f 0) o_q1]).map Value.long = [.long (o_uv C L f s 0), .long (o_uv C L f s 1)] := by
  subst h
  rw [List.take_length]
  exact o_two _ (o_unlen _ _ _ _)
def o_slp (y z : Slot) : Prop := (y = .unset ∧ z = .unset) ∨ ∃ x : Int64, y = .val (.long x) ∧ z = .second
theorem o_slJ6 {x0 x1 x2 x3 x4 x5 x6 x7 : Slot} {v : Int64} (h : o_slp x6 x7) : storeLocals #[x0, x1, x2, x3, x4, x5, x6, x7] 6 (.long v) = some #[x0, x1, x2, x3, x4, x5, .val (.long v), .second] := by rcases h with ⟨rfl, rfl⟩ | ⟨x, rfl, rfl⟩ <;> rfl

def o_Ch (xs : List Int32) : Int32 → List Nat → Prop
  | x, [] => x < 0
  | x, j :: js => x = n32 j ∧ j < xs.length ∧ o_Ch xs (xs.getD j 0) js
def o_cv2 (C : o_C) (L : List Int64) (f s p : Nat) (js : List Nat) : Int64 := o_ct (o_G L f) s (js.map fun j => C.P.getD j o_q0) (o_ex (o_G L f (C.P.getD p o_q0).wo) (C.P.getD p o_q0))
theorem o_ctC (G : Nat → Int64) (s : Nat) (q : o_P) (Q : List o_P) (x : Int64) : o_ct G s (q :: Q) x = o_ct G s Q (o_cs G s x q) := rfl
theorem o_ctT {G : Nat → Int64} {s j : Nat} {q : o_P} {js : List Nat} {P : List o_P} {x r : Int64} (h : o_ct G s ((j :: js).map fun j => P.getD j o_q0) x = r) (e : P.getD j o_q0 = q) (hs : q.wo < s) : o_ct G s (js.map fun j => P.getD j o_q0) (x ||| o_shl (o_ex (G q.wo) q) (n32 q.lo)) = r := by
  rw [← h, List.map_cons, e, o_ctC, o_cs, if_pos hs]
theorem o_ctF {G : Nat → Int64} {s j : Nat} {q : o_P} {js : List Nat} {P : List o_P} {x r : Int64} (h : o_ct G s ((j :: js).map fun j => P.getD j o_q0) x = r) (e : P.getD j o_q0 = q) (hs : ¬ q.wo < s) : o_ct G s (js.map fun j => P.getD j o_q0) x = r := by
  rw [← h, List.map_cons, e, o_ctC, o_cs, if_neg hs]
theorem o_first {C : o_C} (O : o_Ok C) {p : Nat} (hp : p < 2) : ∃ q : o_P, C.P.getD p o_q0 = q ∧ q ∈ C.P ∧ (q.lo = 0 ∧ q.wd = 1 ∧ q.wo = 0 ∧ q.sh + 1 ≤ 64 ∧ q.pl = p) := by
  obtain ⟨R, hR⟩ := O.fst
  rcases (show p = 0 ∨ p = 1 by omega) with rfl | rfl
  · exact ⟨o_q0, by rw [hR]; rfl, by rw [hR]; exact List.mem_cons_self .., by decide⟩
  · exact ⟨o_q1, by rw [hR]; rfl, by rw [hR]; exact List.mem_cons_of_mem _ (List.mem_cons_self ..), by decide⟩
theorem o_slJ8 {x0 x1 x2 x3 x4 x5 x6 x7 x8 x9 : Slot} {v : Int64} (h : o_slp x8 x9) : storeLocals #[x0, x1, x2, x3, x4, x5, x6, x7, x8, x9] 8 (.long v) = some #[x0, x1, x2, x3, x4, x5, x6, x7, .val (.long v), .second] := by rcases h with ⟨rfl, rfl⟩ | ⟨x, rfl, rfl⟩ <;> rfl

theorem o_prT {C : o_C} {m0 m1 : Int64} (O : o_Ok C) (F : ∀ p, p < 2 → (o_cd m0 m1 p).toBitVec.toNat < 2 ^ o_bp C p) : o_pr C m0 m1 = 1 := by
  unfold o_pr
  rw [if_pos]
  have a : (m0 + (1 : Int64)) &&& (o_lim C.b0 ^^^ (-1 : Int64)) = 0 := o_bynd O.b0.1 O.b0.2 (F 0 (by decide))
  have b : (m1 + (1 : Int64)) &&& (o_lim C.b1 ^^^ (-1 : Int64)) = 0 := o_bynd O.b1.1 O.b1.2 (F 1 (by decide))
  unfold o_by o_by1
  rw [a, b]; decide
theorem o_st_tl {C : o_C} (h : C.ts.length + 1 ≤ C.P.length) (p : Nat) (m : Int64) : (o_st p C m).ts.length + 1 ≤ (o_st p C m).P.length := by
  unfold o_st
  split
  · generalize o_wi (m + 1) (o_bp C p) - o_bp C p = w
    show (o_ts C.ts w).length + 1 ≤ (C.P ++ [_]).length
    rw [o_tslen, List.length_append, List.length_singleton]
    split <;> omega
  · exact h
theorem o_ts0 {C : o_C} (O : o_Ok C) : 0 < C.ts.length := by
  obtain ⟨R0, hR0⟩ := O.fst
  exact (O.inv.fld o_q0 (by rw [hR0]; exact List.mem_cons_self ..)).1
theorem o_two2 {D1 D2 : o_C} {x0 x1 y0 y1 : Int64} (h1 : D1 = o_widen o_C1 y0 y1) (h2 : D2 = o_widen D1 x0 x1) : o_Ok D1 ∧ o_Ok D2 ∧ o_Ext D1 D2 ∧ (∀ p, p < 2 → (o_cd y0 y1 p).toBitVec.toNat < 2 ^ o_bp D1 p) ∧ (∀ p, p < 2 → (o_cd x0 x1 p).toBitVec.toNat < 2 ^ o_bp D2 p) ∧ D1.P.length ≤ 4 ∧ D2.P.length ≤ 6 ∧ D1.ts.length ≤ 5 ∧ D2.ts.length ≤ 5 ∧ 0 < D1.ts.length ∧ 0 < D2.ts.length := by
  obtain ⟨a1, a2, a3, a4⟩ := o_widen_ok o_ok1 y0 y1
  rw [← h1] at a1 a2 a3 a4
  obtain ⟨b1, b2, b3, b4⟩ := o_widen_ok a1 x0 x1
  rw [← h2] at b1 b2 b3 b4
  have l : o_C1.P.length = 2 := rfl
  have t1 : D1.ts.length + 1 ≤ D1.P.length := by rw [h1]; unfold o_widen; exact o_st_tl (C := o_st 0 o_C1 y0) (o_st_tl (C := o_C1) (by decide) 0 y0) 1 y1
  have t2 : D2.ts.length + 1 ≤ D2.P.length := by rw [h2]; unfold o_widen; exact o_st_tl (C := o_st 0 D1 x0) (o_st_tl (C := D1) t1 0 x0) 1 x1
  exact ⟨a1, b1, b2, a3, b3, by omega, by omega, by omega, by omega, o_ts0 a1, o_ts0 b1⟩
theorem o_cdm (y : Int64) : (y + 1) - 1 = y := Int64.add_sub_cancel ..
abbrev o_Z8 : List Int64 := [0, 0, 0, 0, 0, 0, 0, 0]
theorem o_and3 (x : Int32) : ∃ f : Nat, f ≤ 3 ∧ x &&& 3 = n32 f := by
  have a := c_mask x 3 2 (by decide) (by decide)
  have e : ((2 ^ 2 : Nat) : Int) = 4 := rfl
  rw [e] at a
  refine ⟨(x.toInt % 4).toNat, by omega, Int32.toInt_inj.mp ?_⟩
  rw [a, o_ni (by omega)]; omega

/-! bitLen, width, ones -/
def o_t0 (x : Int64) (n : Int32) : Int32 := if x = 0 then n else n + 1
def o_sh (s : UInt64) (x : Int64) : Int64 := (x.toUInt64 >>> s).toInt64
def o_t1 (x : Int64) (n : Int32) : Int32 := if o_sh 1 x = 0 then o_t0 x n else o_t0 (o_sh 1 x) (n + 1)
def o_t2 (x : Int64) (n : Int32) : Int32 := if o_sh 2 x = 0 then o_t1 x n else o_t1 (o_sh 2 x) (n + 2)
def o_t4 (x : Int64) (n : Int32) : Int32 := if o_sh 4 x = 0 then o_t2 x n else o_t2 (o_sh 4 x) (n + 4)
def o_t8 (x : Int64) (n : Int32) : Int32 := if o_sh 8 x = 0 then o_t4 x n else o_t4 (o_sh 8 x) (n + 8)
def o_t16 (x : Int64) (n : Int32) : Int32 := if o_sh 16 x = 0 then o_t8 x n else o_t8 (o_sh 16 x) (n + 16)
def o_t32 (x : Int64) (n : Int32) : Int32 := if o_sh 32 x = 0 then o_t16 x n else o_t16 (o_sh 32 x) (n + 32)
def o_BL (f : Int64 → Int32 → Int32) (S : Nat) : Prop := ∀ (x : Int64) (n : Int32), x.toBitVec.toNat < 2 ^ S → ∃ k : Nat, k ≤ S ∧ f x n = n + n32 k ∧ x.toBitVec.toNat < 2 ^ k ∧ (0 < k → 2 ^ (k - 1) ≤ x.toBitVec.toNat)
theorem o_z64 (x : Int64) : x = 0 ↔ x.toBitVec.toNat = 0 := by
  constructor
  · rintro rfl; rfl
  · intro h
    apply Int64.toBitVec_inj.mp
    apply BitVec.eq_of_toNat_eq
    rw [h]; rfl
theorem o_BL0 : o_BL o_t0 1 := by
  intro x n h
  unfold o_t0
  by_cases q : x = 0
  · rw [if_pos q]
    exact ⟨0, by omega, (Int32.add_zero n).symm, by rw [(o_z64 x).mp q]; decide, fun h => absurd h (by decide)⟩
  · rw [if_neg q]
    have : x.toBitVec.toNat ≠ 0 := fun e => q ((o_z64 x).mpr e)
    exact ⟨1, by omega, rfl, h, fun _ => by show 1 ≤ _; omega⟩
theorem o_BLS {f g : Int64 → Int32 → Int32} {S : Nat} {s : UInt64} {t : Int32} (B : o_BL f S) (ht : t = n32 S) (hs : ∀ x : Int64, (o_sh s x).toBitVec.toNat = x.toBitVec.toNat / 2 ^ S) (hg : ∀ x n, g x n = if o_sh s x = 0 then f x n else f (o_sh s x) (n + t)) : o_BL g (S + S) := by
  intro x n h
  rw [hg]
  have e := hs x
  have P := Nat.two_pow_pos S
  by_cases q : o_sh s x = 0
  · rw [if_pos q]
    have q' := (o_z64 _).mp q
    rw [e] at q'
    have lt : x.toBitVec.toNat < 2 ^ S := by
      rcases Nat.div_eq_zero_iff.mp q' with z | z
      · omega
      · exact z
    obtain ⟨k, h1, h2, h3, h4⟩ := B x n lt
    exact ⟨k, by omega, h2, h3, h4⟩
  · rw [if_neg q]
    have q' : (o_sh s x).toBitVec.toNat ≠ 0 := fun z => q ((o_z64 _).mpr z)
    have lt : (o_sh s x).toBitVec.toNat < 2 ^ S := by
      rw [e]; apply Nat.div_lt_of_lt_mul; rw [← Nat.pow_add]; exact h
    obtain ⟨k, h1, h2, h3, h4⟩ := B (o_sh s x) (n + t) lt
    rw [e] at h3 h4 q'
    have k0 : 0 < k := by
      rcases Nat.eq_zero_or_pos k with z | z
      · subst z; rw [Nat.pow_zero] at h3; omega
      · exact z
    refine ⟨k + S, by omega, ?_, ?_, fun _ => ?_⟩
    · rw [h2, ht, Int32.add_assoc, o_nadd, Nat.add_comm S k]
    · rw [Nat.pow_add]; exact (Nat.div_lt_iff_lt_mul P).mp h3
    · rw [show k + S - 1 = (k - 1) + S by omega, Nat.pow_add]; exact (Nat.le_div_iff_mul_le P).mp (h4 k0)
theorem o_shN (s : UInt64) (S : Nat) (hS : S < 64) (h : s.toBitVec % 64#64 = BitVec.ofNat 64 S) (x : Int64) : (o_sh s x).toBitVec.toNat = x.toBitVec.toNat / 2 ^ S := by
  show (x.toBitVec >>> (s.toBitVec % 64#64)).toNat = _
  rw [h, BitVec.ushiftRight_eq', BitVec.toNat_ushiftRight, BitVec.toNat_ofNat, Nat.mod_eq_of_lt (by show S < 2 ^ 64; omega), Nat.shiftRight_eq_div_pow]
theorem o_BL64 : o_BL o_t32 64 :=
  o_BLS (o_BLS (o_BLS (o_BLS (o_BLS (o_BLS o_BL0 rfl (o_shN 1 1 (by decide) (by decide)) (g := o_t1) (fun _ _ => rfl)) rfl (o_shN 2 2 (by decide) (by decide)) (g := o_t2) (fun _ _ => rfl)) rfl (o_shN 4 4 (by decide) (by decide)) (g := o_t4) (fun _ _ => rfl)) rfl (o_shN 8 8 (by decide) (by decide)) (g := o_t8) (fun _ _ => rfl)) rfl (o_shN 16 16 (by decide) (by decide)) (g := o_t16) (fun _ _ => rfl)) rfl (o_shN 32 32 (by decide) (by decide)) (g := o_t32) (fun _ _ => rfl)
theorem o_blu {N a b : Nat} (h1 : N < 2 ^ a) (h2 : 0 < b → 2 ^ (b - 1) ≤ N) : b ≤ a := by
  apply Nat.le_of_not_lt
  intro q
  have := h2 (by omega)
  have := Nat.pow_le_pow_right (show 0 < 2 by decide) (show a ≤ b - 1 by omega)
  omega
theorem o_bl (x : Int64) : o_t32 x 0 = n32 (o_wl x) := by
  obtain ⟨k, h1, h2, h3, h4⟩ := o_BL64 x 0 x.toBitVec.isLt
  obtain ⟨j, g1, g2, g3, g4⟩ := o_len64 x
  have e : o_wl x = j := by unfold o_wl; rw [g2, o_nt (by omega)]
  have : k = j := Nat.le_antisymm (o_blu g3 h4) (o_blu h3 g4)
  rw [h2, e, this, Int32.zero_add]
def o_wd (d : Int64) : Nat := if d.toBitVec.toNat < 2 then 1 else max (o_wl d) 2
def o_width (d : Int64) : Int32 := if d &&& (-2 : Int64) = 0 then 1 else o_mx 2 (o_t32 d 0)
theorem o_m2bit (i : Nat) (h : i < 64) : o_bit (-2) i = decide (1 ≤ i) := by
  have : ∀ i : Fin 64, o_bit (-2) i.val = decide (1 ≤ i.val) := by decide +kernel
  exact this ⟨i, h⟩
theorem o_odd (d : Int64) : d &&& (-2 : Int64) = 0 ↔ d.toBitVec.toNat < 2 := by
  constructor
  · intro h
    have e : d = d &&& 1 := by
      apply o_bext
      intro i hi
      have q : o_bit (d &&& (-2 : Int64)) i = false := by rw [h, o_b0]
      rw [o_band, o_m2bit i hi] at q
      have o1 : ∀ i : Fin 64, o_bit 1 i.val = decide (i.val = 0) := by decide +kernel
      rw [o_band, o1 ⟨i, hi⟩]
      by_cases z : i = 0
      · simp [z]
      · have : 1 ≤ i := by omega
        simp [this] at q
        simp [z, q]
    have : d.toBitVec.toNat = d.toBitVec.toNat &&& 1 := by
      have := congrArg (fun x : Int64 => x.toBitVec.toNat) e
      exact this
    have l : d.toBitVec.toNat &&& 1 ≤ 1 := Nat.and_le_right
    omega
  · intro h
    apply o_bext
    intro i hi
    rw [o_band, o_m2bit i hi, o_b0]
    by_cases z : 1 ≤ i
    · rw [o_hi0 d (b := 1) h i z]; simp
    · simp [z]
theorem o_widthE {d : Int64} {b : Nat} (hb : b = o_wd d) : o_width d = n32 b := by
  subst hb
  unfold o_width o_wd
  by_cases q : d.toBitVec.toNat < 2
  · rw [if_pos ((o_odd d).mpr q), if_pos q]; rfl
  · rw [if_neg (fun z => q ((o_odd d).mp z)), if_neg q, o_bl, show (2 : Int32) = n32 2 from rfl, o_mx2 (by decide) (o_wl_ok d).1, Nat.max_comm]
def o_on (k : Int32) : Int64 := if k < 64 then ((1 : Int64) <<< (k &&& 0x3f).toInt64) - 1 else -1
theorem o_onF : ∀ w : Fin 64, o_on (n32 (w.val + 1)) = o_mk (n32 (w.val + 1)) := by decide +kernel
theorem o_onM {k : Nat} (h1 : 1 ≤ k) (h2 : k ≤ 64) : o_on (n32 k) = o_mk (n32 k) := by
  have := o_onF ⟨k - 1, by omega⟩
  simp only [Nat.sub_add_cancel h1] at this
  exact this
theorem o_onL {k : Nat} (h1 : 1 ≤ k) (h2 : k ≤ 64) : o_on (n32 k) = o_lim k := by rw [o_onM h1 h2, o_lim_mk h1]
/-! one widening of the first layout -/
def o_S (p : Nat) (C : o_C) (w : Nat) : o_C := if 1 < w then o_add C p 1 (w - 1) else C
theorem o_addPT {C C' : o_C} (hP : C.P = C'.P) (hT : C.ts = C'.ts) (p l w : Nat) : (o_add C p l w).P = (o_add C' p l w).P ∧ (o_add C p l w).ts = (o_add C' p l w).ts := by
  refine ⟨?_, ?_⟩
  · show C.P ++ [o_pc C p l w] = C'.P ++ [o_pc C' p l w]
    unfold o_pc
    rw [hP, hT]
  · show o_ts C.ts w = o_ts C'.ts w
    rw [hT]
theorem o_wdb (d : Int64) : 1 ≤ o_wd d ∧ o_wd d ≤ 64 := by
  have := o_wl_ok d
  unfold o_wd
  split
  · exact ⟨by omega, by omega⟩
  · exact ⟨Nat.le_trans (by decide) (Nat.le_max_right _ 2), Nat.max_le.mpr ⟨this.1, by decide⟩⟩
theorem o_stS {C C' : o_C} {p : Nat} (hp : p < 2) (hb : o_bp C p = 1) (hP : C.P = C'.P) (hT : C.ts = C'.ts) (m : Int64) : (o_st p C m).P = (o_S p C' (o_wd (m + 1))).P ∧ (o_st p C m).ts = (o_S p C' (o_wd (m + 1))).ts ∧ o_bp (o_st p C m) p = o_wd (m + 1) ∧ ∀ r, r < 2 → r ≠ p → o_bp (o_st p C m) r = o_bp C r := by
  have hn := o_need_iff m (b := 1) (by decide) (by decide)
  unfold o_st
  rw [hb]
  by_cases q : o_need m 1
  · rw [if_pos q]
    have q' : ¬ (m + 1).toBitVec.toNat < 2 := Nat.not_lt.mpr (hn.mp q)
    have e : o_wi (m + 1) 1 = o_wd (m + 1) := by unfold o_wi o_wd; rw [if_neg q']; rfl
    have l : 1 < o_wd (m + 1) := by unfold o_wd; rw [if_neg q']; exact Nat.lt_of_lt_of_le (by decide) (Nat.le_max_right _ 2)
    rw [e]
    unfold o_S
    rw [if_pos l]
    obtain ⟨a1, a2⟩ := o_addPT hP hT p 1 (o_wd (m + 1) - 1)
    refine ⟨a1, a2, ?_, fun r hr ne => ?_⟩
    · rcases (show p = 0 ∨ p = 1 by omega) with rfl | rfl <;> rfl
    · rcases (show p = 0 ∨ p = 1 by omega) with rfl | rfl <;> rcases (show r = 0 ∨ r = 1 by omega) with rfl | rfl <;> first | exact absurd rfl ne | rfl
  · rw [if_neg q]
    have q' : (m + 1).toBitVec.toNat < 2 := Nat.lt_of_not_le (fun z => q (hn.mpr z))
    have e : o_wd (m + 1) = 1 := by unfold o_wd; rw [if_pos q']
    rw [e]
    unfold o_S
    rw [if_neg (by decide)]
    exact ⟨hP, hT, hb, fun _ _ _ => rfl⟩
theorem o_bp0 (C : o_C) : o_bp C 0 = C.b0 := rfl
theorem o_bp1 (C : o_C) : o_bp C 1 = C.b1 := rfl
theorem o_one {D : o_C} {m0 m1 : Int64} {b0 b1 : Nat} (hD : D = o_widen o_C1 m0 m1) (h0 : b0 = o_wd (m0 + 1)) (h1 : b1 = o_wd (m1 + 1)) : o_Ok D ∧ D.P.length ≤ 4 ∧ D.ts.length ≤ 4 ∧ D.b0 = b0 ∧ D.b1 = b1 ∧ 1 ≤ b0 ∧ b0 ≤ 64 ∧ 1 ≤ b1 ∧ b1 ≤ 64 ∧ D.P = (o_S 1 (o_S 0 o_C1 b0) b1).P ∧ D.ts = (o_S 1 (o_S 0 o_C1 b0) b1).ts := by
  obtain ⟨a1, -, -, a4⟩ := o_widen_ok o_ok1 m0 m1
  rw [← hD] at a1 a4
  obtain ⟨s1, s2, s3, s4⟩ := o_stS (C := o_C1) (C' := o_C1) (p := 0) (by decide) rfl rfl rfl m0
  obtain ⟨t1, t2, t3, t4⟩ := o_stS (C := o_st 0 o_C1 m0) (C' := o_S 0 o_C1 (o_wd (m0 + 1))) (p := 1) (by decide) (by rw [s4 1 (by decide) (by decide)]; rfl) s1 s2 m1
  have w0 := o_wdb (m0 + 1); have w1 := o_wdb (m1 + 1)
  have l : o_C1.P.length = 2 := rfl
  have tl := a1.inv.tl
  refine ⟨a1, by omega, by omega, ?_, ?_, by omega, by omega, by omega, by omega, ?_, ?_⟩
  · have u := t4 0 (by decide) (by decide)
    rw [s3, o_bp0] at u
    rw [hD, h0]; unfold o_widen; exact u
  · rw [o_bp1] at t3
    rw [hD, h1]; unfold o_widen; exact t3
  · rw [hD, h0, h1]; unfold o_widen; exact t1
  · rw [hD, h0, h1]; unfold o_widen; exact t2
theorem o_or0 {x y : Int64} (h : x ||| y = 0) : x = 0 ∧ y = 0 := by
  have q : ∀ i, o_bit x i = false ∧ o_bit y i = false := fun i => by
    have : o_bit (x ||| y) i = false := by rw [h, o_b0]
    rw [o_bor] at this
    simpa using this
  exact ⟨o_bext fun i _ => by rw [(q i).1, o_b0], o_bext fun i _ => by rw [(q i).2, o_b0]⟩
theorem o_0or (x : Int64) : (0 : Int64) ||| x = x := o_bext fun i _ => by rw [o_bor, o_b0, Bool.false_or]
theorem o_prY {D : o_C} {z0 z1 : Int64} {b0 b1 : Nat} (e0 : D.b0 = b0) (e1 : D.b1 = b1) (h0 : (z0 + (1 : Int64)) &&& (o_lim b0 ^^^ (-1 : Int64)) = 0) (h1 : (z1 + (1 : Int64)) &&& (o_lim b1 ^^^ (-1 : Int64)) = 0) : o_pr D z0 z1 = 1 := by
  unfold o_pr
  rw [if_pos]
  unfold o_by o_by1
  rw [e0, e1, h0, h1]; decide
theorem o_prN0 {D : o_C} {z0 z1 : Int64} {b0 : Nat} (e0 : D.b0 = b0) (h0 : ¬ (z0 + (1 : Int64)) &&& (o_lim b0 ^^^ (-1 : Int64)) = 0) : o_pr D z0 z1 = 0 := by
  unfold o_pr
  rw [if_neg]
  intro q
  unfold o_by o_by1 at q
  have := (o_or0 (o_or0 q).1).2
  rw [e0] at this
  exact h0 this
theorem o_prN1 {D : o_C} {z0 z1 : Int64} {b1 : Nat} (e1 : D.b1 = b1) (h1 : ¬ (z1 + (1 : Int64)) &&& (o_lim b1 ^^^ (-1 : Int64)) = 0) : o_pr D z0 z1 = 0 := by
  unfold o_pr
  rw [if_neg]
  intro q
  unfold o_by at q
  have := (o_or0 q).2
  rw [e1] at this
  exact h1 this
/-! the words -/
def o_e0 (c0 c1 : Int64) : Int64 := (c0 &&& (1 : Int64)) ||| ((c1 &&& (1 : Int64)) <<< (1 : Int64))
def o_v (c : Int64) (k : Nat) : Int64 := o_shr c (n32 1) &&& o_mk (n32 k)
abbrev o_N4 : List Int64 := [-1, -1, -1, -1]
theorem o_shl0 (x : Int64) : o_shl x (n32 0) = x := o_bext fun i hi => by rw [o_bshl _ (by decide)]; simp [hi]
theorem o_fvq (c : Int64) {q : o_P} (h : q.lo = 0) (h1 : q.wd = 1) : o_fv c q = c &&& 1 := by
  rw [← o_fvz h h1, show o_mk (n32 1) = 1 by decide +kernel]
theorem o_base (c0 c1 : Int64) : ((0 : Int64) ||| o_shl (o_fv c0 o_q0) (n32 0)) ||| o_shl (o_fv c1 o_q1) (n32 1) = o_e0 c0 c1 := by
  rw [o_0or, o_shl0, o_fvq _ rfl rfl, o_fvq _ rfl rfl]; rfl
theorem o_addf {C : o_C} {t k : Nat} (p : Nat) (hT : C.ts = [t]) (h : t + k ≤ 64) : (o_add C p 1 k).P = C.P ++ [(p, 1, k, 0, t)] ∧ (o_add C p 1 k).ts = [t + k] := by
  have e : o_ff [t] k = 0 := if_pos h
  refine ⟨?_, ?_⟩
  · show C.P ++ [o_pc C p 1 k] = _
    unfold o_pc
    rw [hT, e]; rfl
  · show o_ts C.ts k = _
    unfold o_ts
    rw [hT, e]; rfl
theorem o_addx {C : o_C} {t k : Nat} (p : Nat) (hT : C.ts = [t]) (h : ¬ t + k ≤ 64) : (o_add C p 1 k).P = C.P ++ [(p, 1, k, 1, 0)] ∧ (o_add C p 1 k).ts = [t, 0 + k] := by
  have e : o_ff [t] k = 1 := if_neg h
  refine ⟨?_, ?_⟩
  · show C.P ++ [o_pc C p 1 k] = _
    unfold o_pc
    rw [hT, e]; rfl
  · show o_ts C.ts k = _
    unfold o_ts
    rw [hT, e]; rfl
theorem o_add2f {C : o_C} {t r k : Nat} (p : Nat) (hT : C.ts = [t, r]) (h : t + k ≤ 64) : (o_add C p 1 k).P = C.P ++ [(p, 1, k, 0, t)] ∧ (o_add C p 1 k).ts = [t + k, r] := by
  have e : o_ff [t, r] k = 0 := if_pos h
  refine ⟨?_, ?_⟩
  · show C.P ++ [o_pc C p 1 k] = _
    unfold o_pc
    rw [hT, e]; rfl
  · show o_ts C.ts k = _
    unfold o_ts
    rw [hT, e]; rfl
theorem o_add2x {C : o_C} {t r k : Nat} (p : Nat) (hT : C.ts = [t, r]) (h : ¬ t + k ≤ 64) (h' : ¬ r + k ≤ 64) : (o_add C p 1 k).P = C.P ++ [(p, 1, k, 2, 0)] ∧ (o_add C p 1 k).ts = [t, r, 0 + k] := by
  have e : o_ff [t, r] k = 2 := (if_neg h).trans (if_neg h')
  refine ⟨?_, ?_⟩
  · show C.P ++ [o_pc C p 1 k] = _
    unfold o_pc
    rw [hT, e]; rfl
  · show o_ts C.ts k = _
    unfold o_ts
    rw [hT, e]; rfl
theorem o_LfE {D : o_C} {P : List o_P} {n : Nat} (hP : D.P = P) (hn : D.ts.length = n) (z0 z1 : Int64) : o_pk D o_N4 z0 z1 = o_pkP P (o_z o_N4 n) z0 z1 := by rw [o_pk, hP, hn]
theorem o_csnn {D : o_C} {z0 z1 : Int64} {b0 b1 : Nat} (hP : D.P = (o_S 1 (o_S 0 o_C1 b0) b1).P) (hT : D.ts = (o_S 1 (o_S 0 o_C1 b0) b1).ts) (l0 : b0 ≤ 64) (l1 : b1 ≤ 64) (g0 : ¬ (1 : Int32) < n32 b0) (g1 : ¬ (1 : Int32) < n32 b1) : (o_pk D o_N4 z0 z1).getD 0 0 = (o_e0 (z0 + (1 : Int64)) (z1 + (1 : Int64))) ∧ (o_pk D o_N4 z0 z1).getD 1 0 = (-1 : Int64) ∧ (o_pk D o_N4 z0 z1).getD 2 0 = (-1 : Int64) ∧ (o_pk D o_N4 z0 z1).getD 3 0 = (-1 : Int64) := by
  have e0 : (o_S 0 o_C1 b0).P = [o_q0, o_q1] ∧ (o_S 0 o_C1 b0).ts = [2] := by
    have g0' : ¬ 1 < b0 := fun z => g0 (o_ltT z (by omega))
    unfold o_S
    rw [if_neg g0']
    exact ⟨rfl, rfl⟩
  have e1 : (o_S 1 (o_S 0 o_C1 b0) b1).P = [o_q0, o_q1] ∧ (o_S 1 (o_S 0 o_C1 b0) b1).ts = [2] := by
    have g1' : ¬ 1 < b1 := fun z => g1 (o_ltT z (by omega))
    unfold o_S
    rw [if_neg g1']
    exact e0
  rw [o_LfE (hP.trans e1.1) (n := 1) (by rw [hT, e1.2]; rfl) z0 z1]
  refine ⟨?_, ?_, ?_, ?_⟩
  · show (((0 : Int64) ||| o_shl (o_fv (z0 + (1 : Int64)) o_q0) (n32 0)) ||| o_shl (o_fv (z1 + (1 : Int64)) o_q1) (n32 1)) = (o_e0 (z0 + (1 : Int64)) (z1 + (1 : Int64)))
    rw [o_base]
  · rfl
  · rfl
  · rfl
theorem o_csnf {D : o_C} {z0 z1 : Int64} {b0 b1 : Nat} (hP : D.P = (o_S 1 (o_S 0 o_C1 b0) b1).P) (hT : D.ts = (o_S 1 (o_S 0 o_C1 b0) b1).ts) (l0 : b0 ≤ 64) (l1 : b1 ≤ 64) (g0 : ¬ (1 : Int32) < n32 b0) (g1 : (1 : Int32) < n32 b1) (f1 : ¬ (64 : Int32) < n32 (2 + (b1 - 1))) : (o_pk D o_N4 z0 z1).getD 0 0 = ((o_e0 (z0 + (1 : Int64)) (z1 + (1 : Int64))) ||| (o_shl (o_v (z1 + (1 : Int64)) (b1 - 1)) (n32 2))) ∧ (o_pk D o_N4 z0 z1).getD 1 0 = (-1 : Int64) ∧ (o_pk D o_N4 z0 z1).getD 2 0 = (-1 : Int64) ∧ (o_pk D o_N4 z0 z1).getD 3 0 = (-1 : Int64) := by
  have e0 : (o_S 0 o_C1 b0).P = [o_q0, o_q1] ∧ (o_S 0 o_C1 b0).ts = [2] := by
    have g0' : ¬ 1 < b0 := fun z => g0 (o_ltT z (by omega))
    unfold o_S
    rw [if_neg g0']
    exact ⟨rfl, rfl⟩
  have e1 : (o_S 1 (o_S 0 o_C1 b0) b1).P = [o_q0, o_q1, (1, 1, b1 - 1, 0, 2)] ∧ (o_S 1 (o_S 0 o_C1 b0) b1).ts = [2 + (b1 - 1)] := by
    have g1' : 1 < b1 := (o_nlt (a := 1) (by decide) (by omega)).mp g1
    have f1' : 2 + (b1 - 1) ≤ 64 := Nat.le_of_not_lt fun z => f1 (o_ltT (i := 64) z (by omega))
    unfold o_S
    rw [if_pos g1']
    have q := o_addf (C := o_S 0 o_C1 b0) 1 e0.2 f1'
    rw [e0.1] at q
    exact q
  rw [o_LfE (hP.trans e1.1) (n := 1) (by rw [hT, e1.2]; rfl) z0 z1]
  refine ⟨?_, ?_, ?_, ?_⟩
  · show ((((0 : Int64) ||| o_shl (o_fv (z0 + (1 : Int64)) o_q0) (n32 0)) ||| o_shl (o_fv (z1 + (1 : Int64)) o_q1) (n32 1)) ||| (o_shl (o_v (z1 + (1 : Int64)) (b1 - 1)) (n32 2))) = ((o_e0 (z0 + (1 : Int64)) (z1 + (1 : Int64))) ||| (o_shl (o_v (z1 + (1 : Int64)) (b1 - 1)) (n32 2)))
    rw [o_base]
  · rfl
  · rfl
  · rfl
theorem o_csnx {D : o_C} {z0 z1 : Int64} {b0 b1 : Nat} (hP : D.P = (o_S 1 (o_S 0 o_C1 b0) b1).P) (hT : D.ts = (o_S 1 (o_S 0 o_C1 b0) b1).ts) (l0 : b0 ≤ 64) (l1 : b1 ≤ 64) (g0 : ¬ (1 : Int32) < n32 b0) (g1 : (1 : Int32) < n32 b1) (f1 : (64 : Int32) < n32 (2 + (b1 - 1))) : (o_pk D o_N4 z0 z1).getD 0 0 = (o_e0 (z0 + (1 : Int64)) (z1 + (1 : Int64))) ∧ (o_pk D o_N4 z0 z1).getD 1 0 = ((0 : Int64) ||| (o_v (z1 + (1 : Int64)) (b1 - 1))) ∧ (o_pk D o_N4 z0 z1).getD 2 0 = (-1 : Int64) ∧ (o_pk D o_N4 z0 z1).getD 3 0 = (-1 : Int64) := by
  have e0 : (o_S 0 o_C1 b0).P = [o_q0, o_q1] ∧ (o_S 0 o_C1 b0).ts = [2] := by
    have g0' : ¬ 1 < b0 := fun z => g0 (o_ltT z (by omega))
    unfold o_S
    rw [if_neg g0']
    exact ⟨rfl, rfl⟩
  have e1 : (o_S 1 (o_S 0 o_C1 b0) b1).P = [o_q0, o_q1, (1, 1, b1 - 1, 1, 0)] ∧ (o_S 1 (o_S 0 o_C1 b0) b1).ts = [2, 0 + (b1 - 1)] := by
    have g1' : 1 < b1 := (o_nlt (a := 1) (by decide) (by omega)).mp g1
    have f1' : ¬ 2 + (b1 - 1) ≤ 64 := fun z => absurd ((o_nlt (a := 64) (by decide) (by omega)).mp f1) (by omega)
    unfold o_S
    rw [if_pos g1']
    have q := o_addx (C := o_S 0 o_C1 b0) 1 e0.2 f1'
    rw [e0.1] at q
    exact q
  rw [o_LfE (hP.trans e1.1) (n := 2) (by rw [hT, e1.2]; rfl) z0 z1]
  refine ⟨?_, ?_, ?_, ?_⟩
  · show (((0 : Int64) ||| o_shl (o_fv (z0 + (1 : Int64)) o_q0) (n32 0)) ||| o_shl (o_fv (z1 + (1 : Int64)) o_q1) (n32 1)) = (o_e0 (z0 + (1 : Int64)) (z1 + (1 : Int64)))
    rw [o_base]
  · show ((0 : Int64) ||| o_shl (o_v (z1 + (1 : Int64)) (b1 - 1)) (n32 0)) = ((0 : Int64) ||| (o_v (z1 + (1 : Int64)) (b1 - 1)))
    rw [o_shl0]
  · rfl
  · rfl
theorem o_csfn {D : o_C} {z0 z1 : Int64} {b0 b1 : Nat} (hP : D.P = (o_S 1 (o_S 0 o_C1 b0) b1).P) (hT : D.ts = (o_S 1 (o_S 0 o_C1 b0) b1).ts) (l0 : b0 ≤ 64) (l1 : b1 ≤ 64) (g0 : (1 : Int32) < n32 b0) (f0 : ¬ (64 : Int32) < n32 (2 + (b0 - 1))) (g1 : ¬ (1 : Int32) < n32 b1) : (o_pk D o_N4 z0 z1).getD 0 0 = ((o_e0 (z0 + (1 : Int64)) (z1 + (1 : Int64))) ||| (o_shl (o_v (z0 + (1 : Int64)) (b0 - 1)) (n32 2))) ∧ (o_pk D o_N4 z0 z1).getD 1 0 = (-1 : Int64) ∧ (o_pk D o_N4 z0 z1).getD 2 0 = (-1 : Int64) ∧ (o_pk D o_N4 z0 z1).getD 3 0 = (-1 : Int64) := by
  have e0 : (o_S 0 o_C1 b0).P = [o_q0, o_q1, (0, 1, b0 - 1, 0, 2)] ∧ (o_S 0 o_C1 b0).ts = [2 + (b0 - 1)] := by
    have g0' : 1 < b0 := (o_nlt (a := 1) (by decide) (by omega)).mp g0
    have f0' : 2 + (b0 - 1) ≤ 64 := Nat.le_of_not_lt fun z => f0 (o_ltT (i := 64) z (by omega))
    unfold o_S
    rw [if_pos g0']
    exact o_addf 0 rfl f0'
  have e1 : (o_S 1 (o_S 0 o_C1 b0) b1).P = [o_q0, o_q1, (0, 1, b0 - 1, 0, 2)] ∧ (o_S 1 (o_S 0 o_C1 b0) b1).ts = [2 + (b0 - 1)] := by
    have g1' : ¬ 1 < b1 := fun z => g1 (o_ltT z (by omega))
    unfold o_S
    rw [if_neg g1']
    exact e0
  rw [o_LfE (hP.trans e1.1) (n := 1) (by rw [hT, e1.2]; rfl) z0 z1]
  refine ⟨?_, ?_, ?_, ?_⟩
  · show ((((0 : Int64) ||| o_shl (o_fv (z0 + (1 : Int64)) o_q0) (n32 0)) ||| o_shl (o_fv (z1 + (1 : Int64)) o_q1) (n32 1)) ||| (o_shl (o_v (z0 + (1 : Int64)) (b0 - 1)) (n32 2))) = ((o_e0 (z0 + (1 : Int64)) (z1 + (1 : Int64))) ||| (o_shl (o_v (z0 + (1 : Int64)) (b0 - 1)) (n32 2)))
    rw [o_base]
  · rfl
  · rfl
  · rfl
theorem o_csff {D : o_C} {z0 z1 : Int64} {b0 b1 : Nat} (hP : D.P = (o_S 1 (o_S 0 o_C1 b0) b1).P) (hT : D.ts = (o_S 1 (o_S 0 o_C1 b0) b1).ts) (l0 : b0 ≤ 64) (l1 : b1 ≤ 64) (g0 : (1 : Int32) < n32 b0) (f0 : ¬ (64 : Int32) < n32 (2 + (b0 - 1))) (g1 : (1 : Int32) < n32 b1) (f1 : ¬ (64 : Int32) < n32 ((2 + (b0 - 1)) + (b1 - 1))) : (o_pk D o_N4 z0 z1).getD 0 0 = (((o_e0 (z0 + (1 : Int64)) (z1 + (1 : Int64))) ||| (o_shl (o_v (z0 + (1 : Int64)) (b0 - 1)) (n32 2))) ||| (o_shl (o_v (z1 + (1 : Int64)) (b1 - 1)) (n32 (2 + (b0 - 1))))) ∧ (o_pk D o_N4 z0 z1).getD 1 0 = (-1 : Int64) ∧ (o_pk D o_N4 z0 z1).getD 2 0 = (-1 : Int64) ∧ (o_pk D o_N4 z0 z1).getD 3 0 = (-1 : Int64) := by
  have e0 : (o_S 0 o_C1 b0).P = [o_q0, o_q1, (0, 1, b0 - 1, 0, 2)] ∧ (o_S 0 o_C1 b0).ts = [2 + (b0 - 1)] := by
    have g0' : 1 < b0 := (o_nlt (a := 1) (by decide) (by omega)).mp g0
    have f0' : 2 + (b0 - 1) ≤ 64 := Nat.le_of_not_lt fun z => f0 (o_ltT (i := 64) z (by omega))
    unfold o_S
    rw [if_pos g0']
    exact o_addf 0 rfl f0'
  have e1 : (o_S 1 (o_S 0 o_C1 b0) b1).P = [o_q0, o_q1, (0, 1, b0 - 1, 0, 2), (1, 1, b1 - 1, 0, (2 + (b0 - 1)))] ∧ (o_S 1 (o_S 0 o_C1 b0) b1).ts = [(2 + (b0 - 1)) + (b1 - 1)] := by
    have g1' : 1 < b1 := (o_nlt (a := 1) (by decide) (by omega)).mp g1
    have f1' : (2 + (b0 - 1)) + (b1 - 1) ≤ 64 := Nat.le_of_not_lt fun z => f1 (o_ltT (i := 64) z (by omega))
    unfold o_S
    rw [if_pos g1']
    have q := o_addf (C := o_S 0 o_C1 b0) 1 e0.2 f1'
    rw [e0.1] at q
    exact q
  rw [o_LfE (hP.trans e1.1) (n := 1) (by rw [hT, e1.2]; rfl) z0 z1]
  refine ⟨?_, ?_, ?_, ?_⟩
  · show (((((0 : Int64) ||| o_shl (o_fv (z0 + (1 : Int64)) o_q0) (n32 0)) ||| o_shl (o_fv (z1 + (1 : Int64)) o_q1) (n32 1)) ||| (o_shl (o_v (z0 + (1 : Int64)) (b0 - 1)) (n32 2))) ||| (o_shl (o_v (z1 + (1 : Int64)) (b1 - 1)) (n32 (2 + (b0 - 1))))) = (((o_e0 (z0 + (1 : Int64)) (z1 + (1 : Int64))) ||| (o_shl (o_v (z0 + (1 : Int64)) (b0 - 1)) (n32 2))) ||| (o_shl (o_v (z1 + (1 : Int64)) (b1 - 1)) (n32 (2 + (b0 - 1)))))
    rw [o_base]
  · rfl
  · rfl
  · rfl
theorem o_csfx {D : o_C} {z0 z1 : Int64} {b0 b1 : Nat} (hP : D.P = (o_S 1 (o_S 0 o_C1 b0) b1).P) (hT : D.ts = (o_S 1 (o_S 0 o_C1 b0) b1).ts) (l0 : b0 ≤ 64) (l1 : b1 ≤ 64) (g0 : (1 : Int32) < n32 b0) (f0 : ¬ (64 : Int32) < n32 (2 + (b0 - 1))) (g1 : (1 : Int32) < n32 b1) (f1 : (64 : Int32) < n32 ((2 + (b0 - 1)) + (b1 - 1))) : (o_pk D o_N4 z0 z1).getD 0 0 = ((o_e0 (z0 + (1 : Int64)) (z1 + (1 : Int64))) ||| (o_shl (o_v (z0 + (1 : Int64)) (b0 - 1)) (n32 2))) ∧ (o_pk D o_N4 z0 z1).getD 1 0 = ((0 : Int64) ||| (o_v (z1 + (1 : Int64)) (b1 - 1))) ∧ (o_pk D o_N4 z0 z1).getD 2 0 = (-1 : Int64) ∧ (o_pk D o_N4 z0 z1).getD 3 0 = (-1 : Int64) := by
  have e0 : (o_S 0 o_C1 b0).P = [o_q0, o_q1, (0, 1, b0 - 1, 0, 2)] ∧ (o_S 0 o_C1 b0).ts = [2 + (b0 - 1)] := by
    have g0' : 1 < b0 := (o_nlt (a := 1) (by decide) (by omega)).mp g0
    have f0' : 2 + (b0 - 1) ≤ 64 := Nat.le_of_not_lt fun z => f0 (o_ltT (i := 64) z (by omega))
    unfold o_S
    rw [if_pos g0']
    exact o_addf 0 rfl f0'
  have e1 : (o_S 1 (o_S 0 o_C1 b0) b1).P = [o_q0, o_q1, (0, 1, b0 - 1, 0, 2), (1, 1, b1 - 1, 1, 0)] ∧ (o_S 1 (o_S 0 o_C1 b0) b1).ts = [2 + (b0 - 1), 0 + (b1 - 1)] := by
    have g1' : 1 < b1 := (o_nlt (a := 1) (by decide) (by omega)).mp g1
    have f1' : ¬ (2 + (b0 - 1)) + (b1 - 1) ≤ 64 := fun z => absurd ((o_nlt (a := 64) (by decide) (by omega)).mp f1) (by omega)
    unfold o_S
    rw [if_pos g1']
    have q := o_addx (C := o_S 0 o_C1 b0) 1 e0.2 f1'
    rw [e0.1] at q
    exact q
  rw [o_LfE (hP.trans e1.1) (n := 2) (by rw [hT, e1.2]; rfl) z0 z1]
  refine ⟨?_, ?_, ?_, ?_⟩
  · show ((((0 : Int64) ||| o_shl (o_fv (z0 + (1 : Int64)) o_q0) (n32 0)) ||| o_shl (o_fv (z1 + (1 : Int64)) o_q1) (n32 1)) ||| (o_shl (o_v (z0 + (1 : Int64)) (b0 - 1)) (n32 2))) = ((o_e0 (z0 + (1 : Int64)) (z1 + (1 : Int64))) ||| (o_shl (o_v (z0 + (1 : Int64)) (b0 - 1)) (n32 2)))
    rw [o_base]
  · show ((0 : Int64) ||| o_shl (o_v (z1 + (1 : Int64)) (b1 - 1)) (n32 0)) = ((0 : Int64) ||| (o_v (z1 + (1 : Int64)) (b1 - 1)))
    rw [o_shl0]
  · rfl
  · rfl
theorem o_csxn {D : o_C} {z0 z1 : Int64} {b0 b1 : Nat} (hP : D.P = (o_S 1 (o_S 0 o_C1 b0) b1).P) (hT : D.ts = (o_S 1 (o_S 0 o_C1 b0) b1).ts) (l0 : b0 ≤ 64) (l1 : b1 ≤ 64) (g0 : (1 : Int32) < n32 b0) (f0 : (64 : Int32) < n32 (2 + (b0 - 1))) (g1 : ¬ (1 : Int32) < n32 b1) : (o_pk D o_N4 z0 z1).getD 0 0 = (o_e0 (z0 + (1 : Int64)) (z1 + (1 : Int64))) ∧ (o_pk D o_N4 z0 z1).getD 1 0 = ((0 : Int64) ||| (o_v (z0 + (1 : Int64)) (b0 - 1))) ∧ (o_pk D o_N4 z0 z1).getD 2 0 = (-1 : Int64) ∧ (o_pk D o_N4 z0 z1).getD 3 0 = (-1 : Int64) := by
  have e0 : (o_S 0 o_C1 b0).P = [o_q0, o_q1, (0, 1, b0 - 1, 1, 0)] ∧ (o_S 0 o_C1 b0).ts = [2, 0 + (b0 - 1)] := by
    have g0' : 1 < b0 := (o_nlt (a := 1) (by decide) (by omega)).mp g0
    have f0' : ¬ 2 + (b0 - 1) ≤ 64 := fun z => absurd ((o_nlt (a := 64) (by decide) (by omega)).mp f0) (by omega)
    unfold o_S
    rw [if_pos g0']
    exact o_addx 0 rfl f0'
  have e1 : (o_S 1 (o_S 0 o_C1 b0) b1).P = [o_q0, o_q1, (0, 1, b0 - 1, 1, 0)] ∧ (o_S 1 (o_S 0 o_C1 b0) b1).ts = [2, 0 + (b0 - 1)] := by
    have g1' : ¬ 1 < b1 := fun z => g1 (o_ltT z (by omega))
    unfold o_S
    rw [if_neg g1']
    exact e0
  rw [o_LfE (hP.trans e1.1) (n := 2) (by rw [hT, e1.2]; rfl) z0 z1]
  refine ⟨?_, ?_, ?_, ?_⟩
  · show (((0 : Int64) ||| o_shl (o_fv (z0 + (1 : Int64)) o_q0) (n32 0)) ||| o_shl (o_fv (z1 + (1 : Int64)) o_q1) (n32 1)) = (o_e0 (z0 + (1 : Int64)) (z1 + (1 : Int64)))
    rw [o_base]
  · show ((0 : Int64) ||| o_shl (o_v (z0 + (1 : Int64)) (b0 - 1)) (n32 0)) = ((0 : Int64) ||| (o_v (z0 + (1 : Int64)) (b0 - 1)))
    rw [o_shl0]
  · rfl
  · rfl
theorem o_csxf {D : o_C} {z0 z1 : Int64} {b0 b1 : Nat} (hP : D.P = (o_S 1 (o_S 0 o_C1 b0) b1).P) (hT : D.ts = (o_S 1 (o_S 0 o_C1 b0) b1).ts) (l0 : b0 ≤ 64) (l1 : b1 ≤ 64) (g0 : (1 : Int32) < n32 b0) (f0 : (64 : Int32) < n32 (2 + (b0 - 1))) (g1 : (1 : Int32) < n32 b1) (f1 : ¬ (64 : Int32) < n32 (2 + (b1 - 1))) : (o_pk D o_N4 z0 z1).getD 0 0 = ((o_e0 (z0 + (1 : Int64)) (z1 + (1 : Int64))) ||| (o_shl (o_v (z1 + (1 : Int64)) (b1 - 1)) (n32 2))) ∧ (o_pk D o_N4 z0 z1).getD 1 0 = ((0 : Int64) ||| (o_v (z0 + (1 : Int64)) (b0 - 1))) ∧ (o_pk D o_N4 z0 z1).getD 2 0 = (-1 : Int64) ∧ (o_pk D o_N4 z0 z1).getD 3 0 = (-1 : Int64) := by
  have e0 : (o_S 0 o_C1 b0).P = [o_q0, o_q1, (0, 1, b0 - 1, 1, 0)] ∧ (o_S 0 o_C1 b0).ts = [2, 0 + (b0 - 1)] := by
    have g0' : 1 < b0 := (o_nlt (a := 1) (by decide) (by omega)).mp g0
    have f0' : ¬ 2 + (b0 - 1) ≤ 64 := fun z => absurd ((o_nlt (a := 64) (by decide) (by omega)).mp f0) (by omega)
    unfold o_S
    rw [if_pos g0']
    exact o_addx 0 rfl f0'
  have e1 : (o_S 1 (o_S 0 o_C1 b0) b1).P = [o_q0, o_q1, (0, 1, b0 - 1, 1, 0), (1, 1, b1 - 1, 0, 2)] ∧ (o_S 1 (o_S 0 o_C1 b0) b1).ts = [2 + (b1 - 1), 0 + (b0 - 1)] := by
    have g1' : 1 < b1 := (o_nlt (a := 1) (by decide) (by omega)).mp g1
    have f1' : 2 + (b1 - 1) ≤ 64 := Nat.le_of_not_lt fun z => f1 (o_ltT (i := 64) z (by omega))
    unfold o_S
    rw [if_pos g1']
    have q := o_add2f (C := o_S 0 o_C1 b0) 1 e0.2 f1'
    rw [e0.1] at q
    exact q
  rw [o_LfE (hP.trans e1.1) (n := 2) (by rw [hT, e1.2]; rfl) z0 z1]
  refine ⟨?_, ?_, ?_, ?_⟩
  · show ((((0 : Int64) ||| o_shl (o_fv (z0 + (1 : Int64)) o_q0) (n32 0)) ||| o_shl (o_fv (z1 + (1 : Int64)) o_q1) (n32 1)) ||| (o_shl (o_v (z1 + (1 : Int64)) (b1 - 1)) (n32 2))) = ((o_e0 (z0 + (1 : Int64)) (z1 + (1 : Int64))) ||| (o_shl (o_v (z1 + (1 : Int64)) (b1 - 1)) (n32 2)))
    rw [o_base]
  · show ((0 : Int64) ||| o_shl (o_v (z0 + (1 : Int64)) (b0 - 1)) (n32 0)) = ((0 : Int64) ||| (o_v (z0 + (1 : Int64)) (b0 - 1)))
    rw [o_shl0]
  · rfl
  · rfl
theorem o_csxx {D : o_C} {z0 z1 : Int64} {b0 b1 : Nat} (hP : D.P = (o_S 1 (o_S 0 o_C1 b0) b1).P) (hT : D.ts = (o_S 1 (o_S 0 o_C1 b0) b1).ts) (l0 : b0 ≤ 64) (l1 : b1 ≤ 64) (g0 : (1 : Int32) < n32 b0) (f0 : (64 : Int32) < n32 (2 + (b0 - 1))) (g1 : (1 : Int32) < n32 b1) (f1 : (64 : Int32) < n32 (2 + (b1 - 1))) : (o_pk D o_N4 z0 z1).getD 0 0 = (o_e0 (z0 + (1 : Int64)) (z1 + (1 : Int64))) ∧ (o_pk D o_N4 z0 z1).getD 1 0 = ((0 : Int64) ||| (o_v (z0 + (1 : Int64)) (b0 - 1))) ∧ (o_pk D o_N4 z0 z1).getD 2 0 = ((0 : Int64) ||| (o_v (z1 + (1 : Int64)) (b1 - 1))) ∧ (o_pk D o_N4 z0 z1).getD 3 0 = (-1 : Int64) := by
  have e0 : (o_S 0 o_C1 b0).P = [o_q0, o_q1, (0, 1, b0 - 1, 1, 0)] ∧ (o_S 0 o_C1 b0).ts = [2, 0 + (b0 - 1)] := by
    have g0' : 1 < b0 := (o_nlt (a := 1) (by decide) (by omega)).mp g0
    have f0' : ¬ 2 + (b0 - 1) ≤ 64 := fun z => absurd ((o_nlt (a := 64) (by decide) (by omega)).mp f0) (by omega)
    unfold o_S
    rw [if_pos g0']
    exact o_addx 0 rfl f0'
  have e1 : (o_S 1 (o_S 0 o_C1 b0) b1).P = [o_q0, o_q1, (0, 1, b0 - 1, 1, 0), (1, 1, b1 - 1, 2, 0)] ∧ (o_S 1 (o_S 0 o_C1 b0) b1).ts = [2, 0 + (b0 - 1), 0 + (b1 - 1)] := by
    have g1' : 1 < b1 := (o_nlt (a := 1) (by decide) (by omega)).mp g1
    have f1' : ¬ 2 + (b1 - 1) ≤ 64 := fun z => absurd ((o_nlt (a := 64) (by decide) (by omega)).mp f1) (by omega)
    have f0' := (o_nlt (a := 64) (by decide) (by omega)).mp f0
    unfold o_S
    rw [if_pos g1']
    have q := o_add2x (C := o_S 0 o_C1 b0) 1 e0.2 f1' (by omega)
    rw [e0.1] at q
    exact q
  rw [o_LfE (hP.trans e1.1) (n := 3) (by rw [hT, e1.2]; rfl) z0 z1]
  refine ⟨?_, ?_, ?_, ?_⟩
  · show (((0 : Int64) ||| o_shl (o_fv (z0 + (1 : Int64)) o_q0) (n32 0)) ||| o_shl (o_fv (z1 + (1 : Int64)) o_q1) (n32 1)) = (o_e0 (z0 + (1 : Int64)) (z1 + (1 : Int64)))
    rw [o_base]
  · show ((0 : Int64) ||| o_shl (o_v (z0 + (1 : Int64)) (b0 - 1)) (n32 0)) = ((0 : Int64) ||| (o_v (z0 + (1 : Int64)) (b0 - 1)))
    rw [o_shl0]
  · show ((0 : Int64) ||| o_shl (o_v (z1 + (1 : Int64)) (b1 - 1)) (n32 0)) = ((0 : Int64) ||| (o_v (z1 + (1 : Int64)) (b1 - 1)))
    rw [o_shl0]
  · rfl
theorem o_km {b : Nat} (h : 1 < b) : 1 ≤ b - 1 := by omega

theorem d_jdk_29_method_65_code_0 : decode jdk_29_method_65_code 0 = .ok (.iload_n 0, 1) := by decide +kernel
theorem d_jdk_29_method_65_code_1 : decode jdk_29_method_65_code 1 = .ok (.iload_n 1, 1) := by decide +kernel
theorem d_jdk_29_method_65_code_2 : decode jdk_29_method_65_code 2 = .ok (.if_icmp .lt 7, 3) := by decide +kernel
theorem d_jdk_29_method_65_code_9 : decode jdk_29_method_65_code 9 = .ok (.iload_n 1, 1) := by decide +kernel
theorem d_jdk_29_method_65_code_10 : decode jdk_29_method_65_code 10 = .ok (.ireturn, 1) := by decide +kernel
theorem d_jdk_29_method_65_code_5 : decode jdk_29_method_65_code 5 = .ok (.iload_n 0, 1) := by decide +kernel
theorem d_jdk_29_method_65_code_6 : decode jdk_29_method_65_code 6 = .ok (.goto 4, 3) := by decide +kernel
theorem o_ef1 (m : MethodId) (p0 : Int32) (p1 : Int32) : entryFrame m #[(.int p0), (.int p1)] 2 = mkF m 0 #[.val (.int p0), .val (.int p1)] [] := by first | (simp [entryFrame, mkF, argsToLocals, Value.category]; done) | rfl
set_option maxRecDepth 65536 in
set_option maxHeartbeats 40000000 in
theorem c_max (l : Launch) (Z : State) (a0 : Array Value) (hw : ∀ d ∈ tables_1, d.before a0 Z = true) (p0 : Int32) (p1 : Int32) (h0 : Heap) :
    Does l Z (⟨"java/lang/Math", "max", "(II)I"⟩ : MethodName) jdk_29_method_65_code 2 (some .int) [] ({ frames := 0, cells := 0, slots := 0, locals := 0 } : Room) #[(.int p0), (.int p1)] h0 (Pur h0 (.int (o_mx p0 p1))) := by
  refine Does.of (Jvm.Free.JP.mathPlain rfl (by decide +kernel)) ?_
  intro p e s m below meth c T0 hx hby hml hown hnm hret hlk hZ X0 e0
  have hown : s.vm.findClass "java/lang/Math" = some m.cls := hown
  have hml : c.maxLocals = 2 := hml
  have hret : meth.sig.returnType = some .int := hret
  refine o_entry (o_ef1 m p0 p1) ?_
  refine o_iloadN X0 hx (hb hby d_jdk_29_method_65_code_0) (v := p0) rfl (n := 1) rfl ?_
  refine o_iloadN X0 hx (hb hby d_jdk_29_method_65_code_1) (v := p1) rfl (n := 2) rfl ?_
  by_cases hc2 : p0 < p1
  · refine o_icmpY X0 hx (hb hby d_jdk_29_method_65_code_2) (XT.ii_lt_t hc2) (by decide) (n := 9) (by decide) ?_
    refine o_iloadN X0 hx (hb hby d_jdk_29_method_65_code_9) (v := p1) rfl (n := 10) rfl ?_
    exact o_ireturn X0 hx hret hlk (hb hby d_jdk_29_method_65_code_10) (by decide) (by decide) e0 ⟨by first | (simp only [o_mx, hc2, o_nz1, o_nz0, ↓reduceIte, eq_self]; done) | (simp [o_mx, hc2]; done) | (simp [o_mx, hc2, o_nz1, o_nz0]; done), rfl, rfl⟩
  · refine o_icmpN X0 hx (hb hby d_jdk_29_method_65_code_2) (XT.ii_lt_f hc2) (n := 5) rfl ?_
    refine o_iloadN X0 hx (hb hby d_jdk_29_method_65_code_5) (v := p0) rfl (n := 6) rfl ?_
    refine o_goto X0 hx (hb hby d_jdk_29_method_65_code_6) (by decide) (n := 10) (by decide) ?_
    exact o_ireturn X0 hx hret hlk (hb hby d_jdk_29_method_65_code_10) (by decide) (by decide) e0 ⟨by first | (simp only [o_mx, hc2, o_nz1, o_nz0, ↓reduceIte, eq_self]; done) | (simp [o_mx, hc2]; done) | (simp [o_mx, hc2, o_nz1, o_nz0]; done), rfl, rfl⟩
theorem d_jdk_29_method_69_code_0 : decode jdk_29_method_69_code 0 = .ok (.iload_n 0, 1) := by decide +kernel
theorem d_jdk_29_method_69_code_1 : decode jdk_29_method_69_code 1 = .ok (.iload_n 1, 1) := by decide +kernel
theorem d_jdk_29_method_69_code_2 : decode jdk_29_method_69_code 2 = .ok (.if_icmp .gt 7, 3) := by decide +kernel
theorem d_jdk_29_method_69_code_9 : decode jdk_29_method_69_code 9 = .ok (.iload_n 1, 1) := by decide +kernel
theorem d_jdk_29_method_69_code_10 : decode jdk_29_method_69_code 10 = .ok (.ireturn, 1) := by decide +kernel
theorem d_jdk_29_method_69_code_5 : decode jdk_29_method_69_code 5 = .ok (.iload_n 0, 1) := by decide +kernel
theorem d_jdk_29_method_69_code_6 : decode jdk_29_method_69_code 6 = .ok (.goto 4, 3) := by decide +kernel
theorem o_ef2 (m : MethodId) (p0 : Int32) (p1 : Int32) : entryFrame m #[(.int p0), (.int p1)] 2 = mkF m 0 #[.val (.int p0), .val (.int p1)] [] := by first | (simp [entryFrame, mkF, argsToLocals, Value.category]; done) | rfl
set_option maxRecDepth 65536 in
set_option maxHeartbeats 40000000 in
theorem c_min (l : Launch) (Z : State) (a0 : Array Value) (hw : ∀ d ∈ tables_1, d.before a0 Z = true) (p0 : Int32) (p1 : Int32) (h0 : Heap) :
    Does l Z (⟨"java/lang/Math", "min", "(II)I"⟩ : MethodName) jdk_29_method_69_code 2 (some .int) [] ({ frames := 0, cells := 0, slots := 0, locals := 0 } : Room) #[(.int p0), (.int p1)] h0 (Pur h0 (.int (o_mn p0 p1))) := by
  refine Does.of (Jvm.Free.JP.mathPlain rfl (by decide +kernel)) ?_
  intro p e s m below meth c T0 hx hby hml hown hnm hret hlk hZ X0 e0
  have hown : s.vm.findClass "java/lang/Math" = some m.cls := hown
  have hml : c.maxLocals = 2 := hml
  have hret : meth.sig.returnType = some .int := hret
  refine o_entry (o_ef2 m p0 p1) ?_
  refine o_iloadN X0 hx (hb hby d_jdk_29_method_69_code_0) (v := p0) rfl (n := 1) rfl ?_
  refine o_iloadN X0 hx (hb hby d_jdk_29_method_69_code_1) (v := p1) rfl (n := 2) rfl ?_
  by_cases hc2 : p1 < p0
  · refine o_icmpY X0 hx (hb hby d_jdk_29_method_69_code_2) (XT.ii_gt_t hc2) (by decide) (n := 9) (by decide) ?_
    refine o_iloadN X0 hx (hb hby d_jdk_29_method_69_code_9) (v := p1) rfl (n := 10) rfl ?_
    exact o_ireturn X0 hx hret hlk (hb hby d_jdk_29_method_69_code_10) (by decide) (by decide) e0 ⟨by first | (simp only [o_mn, hc2, o_nz1, o_nz0, ↓reduceIte, eq_self]; done) | (simp [o_mn, hc2]; done) | (simp [o_mn, hc2, o_nz1, o_nz0]; done), rfl, rfl⟩
  · refine o_icmpN X0 hx (hb hby d_jdk_29_method_69_code_2) (XT.ii_gt_f hc2) (n := 5) rfl ?_
    refine o_iloadN X0 hx (hb hby d_jdk_29_method_69_code_5) (v := p0) rfl (n := 6) rfl ?_
    refine o_goto X0 hx (hb hby d_jdk_29_method_69_code_6) (by decide) (n := 10) (by decide) ?_
    exact o_ireturn X0 hx hret hlk (hb hby d_jdk_29_method_69_code_10) (by decide) (by decide) e0 ⟨by first | (simp only [o_mn, hc2, o_nz1, o_nz0, ↓reduceIte, eq_self]; done) | (simp [o_mn, hc2]; done) | (simp [o_mn, hc2, o_nz1, o_nz0]; done), rfl, rfl⟩
theorem d_jdk_35_method_42_code_0 : decode jdk_35_method_42_code 0 = .ok (.lload_n 0, 1) := by decide +kernel
theorem d_jdk_35_method_42_code_1 : decode jdk_35_method_42_code 1 = .ok (.lload_n 2, 1) := by decide +kernel
theorem d_jdk_35_method_42_code_2 : decode jdk_35_method_42_code 2 = .ok (.lcmp, 1) := by decide +kernel
theorem d_jdk_35_method_42_code_3 : decode jdk_35_method_42_code 3 = .ok (.ifCond .ge 7, 3) := by decide +kernel
theorem d_jdk_35_method_42_code_6 : decode jdk_35_method_42_code 6 = .ok (.iconst (-1), 1) := by decide +kernel
theorem d_jdk_35_method_42_code_7 : decode jdk_35_method_42_code 7 = .ok (.goto 14, 3) := by decide +kernel
theorem d_jdk_35_method_42_code_21 : decode jdk_35_method_42_code 21 = .ok (.ireturn, 1) := by decide +kernel
theorem d_jdk_35_method_42_code_10 : decode jdk_35_method_42_code 10 = .ok (.lload_n 0, 1) := by decide +kernel
theorem d_jdk_35_method_42_code_11 : decode jdk_35_method_42_code 11 = .ok (.lload_n 2, 1) := by decide +kernel
theorem d_jdk_35_method_42_code_12 : decode jdk_35_method_42_code 12 = .ok (.lcmp, 1) := by decide +kernel
theorem d_jdk_35_method_42_code_13 : decode jdk_35_method_42_code 13 = .ok (.ifCond .ne 7, 3) := by decide +kernel
theorem d_jdk_35_method_42_code_16 : decode jdk_35_method_42_code 16 = .ok (.iconst 0, 1) := by decide +kernel
theorem d_jdk_35_method_42_code_17 : decode jdk_35_method_42_code 17 = .ok (.goto 4, 3) := by decide +kernel
theorem d_jdk_35_method_42_code_20 : decode jdk_35_method_42_code 20 = .ok (.iconst 1, 1) := by decide +kernel
theorem o_ef3 (m : MethodId) (p0 : Int64) (p1 : Int64) : entryFrame m #[(.long p0), (.long p1)] 4 = mkF m 0 #[.val (.long p0), .second, .val (.long p1), .second] [] := by first | (simp [entryFrame, mkF, argsToLocals, Value.category]; done) | rfl
theorem o_pn0 : plainName "java/lang/Long" = true := by first | (simp [plainName, overriddenIn]; done) | decide +kernel
set_option maxRecDepth 65536 in
set_option maxHeartbeats 40000000 in
theorem c_compare (l : Launch) (Z : State) (a0 : Array Value) (hw : ∀ d ∈ tables_1, d.before a0 Z = true) (p0 : Int64) (p1 : Int64) (h0 : Heap) :
    Does l Z (⟨"java/lang/Long", "compare", "(JJ)I"⟩ : MethodName) jdk_35_method_42_code 4 (some .int) [] ({ frames := 0, cells := 0, slots := 0, locals := 0 } : Room) #[(.long p0), (.long p1)] h0 (Pur h0 (.int (o_cmp p0 p1))) := by
  refine Does.of (plainFor_of_name o_pn0) ?_
  intro p e s m below meth c T0 hx hby hml hown hnm hret hlk hZ X0 e0
  have hown : s.vm.findClass "java/lang/Long" = some m.cls := hown
  have hml : c.maxLocals = 4 := hml
  have hret : meth.sig.returnType = some .int := hret
  refine o_entry (o_ef3 m p0 p1) ?_
  refine o_lloadN X0 hx (hb hby d_jdk_35_method_42_code_0) (v := p0) rfl (n := 1) rfl ?_
  refine o_lloadN X0 hx (hb hby d_jdk_35_method_42_code_1) (v := p1) rfl (n := 2) rfl ?_
  refine o_lcmp X0 hx (hb hby d_jdk_35_method_42_code_2) (n := 3) rfl ?_
  by_cases hc3 : p0 < p1
  · refine o_ifN X0 hx (hb hby d_jdk_35_method_42_code_3) (XT.ll_ge_f hc3) (n := 6) rfl ?_
    refine o_iconst X0 hx (hb hby d_jdk_35_method_42_code_6) (v := (-1 : Int32)) rfl (n := 7) rfl ?_
    refine o_goto X0 hx (hb hby d_jdk_35_method_42_code_7) (by decide) (n := 21) (by decide) ?_
    exact o_ireturn X0 hx hret hlk (hb hby d_jdk_35_method_42_code_21) (by decide) (by decide) e0 ⟨by first | (simp only [o_cmp, hc3, o_nz1, o_nz0, ↓reduceIte, eq_self]; done) | (simp [o_cmp, hc3]; done) | (simp [o_cmp, hc3, o_nz1, o_nz0]; done), rfl, rfl⟩
  · refine o_ifY X0 hx (hb hby d_jdk_35_method_42_code_3) (XT.ll_ge_t hc3) (by decide) (n := 10) (by decide) ?_
    refine o_lloadN X0 hx (hb hby d_jdk_35_method_42_code_10) (v := p0) rfl (n := 11) rfl ?_
    refine o_lloadN X0 hx (hb hby d_jdk_35_method_42_code_11) (v := p1) rfl (n := 12) rfl ?_
    refine o_lcmp X0 hx (hb hby d_jdk_35_method_42_code_12) (n := 13) rfl ?_
    by_cases hc13 : p0 = p1
    · refine o_ifN X0 hx (hb hby d_jdk_35_method_42_code_13) (XT.ll_ne_f hc13) (n := 16) rfl ?_
      refine o_iconst X0 hx (hb hby d_jdk_35_method_42_code_16) (v := (0 : Int32)) rfl (n := 17) rfl ?_
      refine o_goto X0 hx (hb hby d_jdk_35_method_42_code_17) (by decide) (n := 21) (by decide) ?_
      exact o_ireturn X0 hx hret hlk (hb hby d_jdk_35_method_42_code_21) (by decide) (by decide) e0 ⟨by first | (simp only [o_cmp, hc3, hc13, o_nz1, o_nz0, ↓reduceIte, eq_self]; done) | (simp [o_cmp, hc3, hc13]; done) | (simp [o_cmp, hc3, hc13, o_nz1, o_nz0]; done), rfl, rfl⟩
    · refine o_ifY X0 hx (hb hby d_jdk_35_method_42_code_13) (XT.ll_ne_t hc13) (by decide) (n := 20) (by decide) ?_
      refine o_iconst X0 hx (hb hby d_jdk_35_method_42_code_20) (v := (1 : Int32)) rfl (n := 21) rfl ?_
      exact o_ireturn X0 hx hret hlk (hb hby d_jdk_35_method_42_code_21) (by decide) (by decide) e0 ⟨by first | (simp only [o_cmp, hc3, hc13, o_nz1, o_nz0, ↓reduceIte, eq_self]; done) | (simp [o_cmp, hc3, hc13]; done) | (simp [o_cmp, hc3, hc13, o_nz1, o_nz0]; done), rfl, rfl⟩
theorem d_jdk_35_method_43_code_0 : decode jdk_35_method_43_code 0 = .ok (.lload_n 0, 1) := by decide +kernel
theorem d_jdk_35_method_43_code_1 : decode jdk_35_method_43_code 1 = .ok (.ldc2_w 168, 3) := by decide +kernel
theorem d_jdk_35_method_43_code_4 : decode jdk_35_method_43_code 4 = .ok (.ladd, 1) := by decide +kernel
theorem d_jdk_35_method_43_code_5 : decode jdk_35_method_43_code 5 = .ok (.lload_n 2, 1) := by decide +kernel
theorem d_jdk_35_method_43_code_6 : decode jdk_35_method_43_code 6 = .ok (.ldc2_w 168, 3) := by decide +kernel
theorem d_jdk_35_method_43_code_9 : decode jdk_35_method_43_code 9 = .ok (.ladd, 1) := by decide +kernel
theorem d_jdk_35_method_43_code_10 : decode jdk_35_method_43_code 10 = .ok (.invokestatic 302, 3) := by decide +kernel
theorem o_pd0 : parseMethodDescriptor "(JJ)I" = some ⟨[.long, .long], some .int⟩ := by decide +kernel
theorem d_jdk_35_method_43_code_13 : decode jdk_35_method_43_code 13 = .ok (.ireturn, 1) := by decide +kernel
theorem o_ef4 (m : MethodId) (p0 : Int64) (p1 : Int64) : entryFrame m #[(.long p0), (.long p1)] 4 = mkF m 0 #[.val (.long p0), .second, .val (.long p1), .second] [] := by first | (simp [entryFrame, mkF, argsToLocals, Value.category]; done) | rfl
set_option maxRecDepth 65536 in
set_option maxHeartbeats 40000000 in
theorem c_cmpU (l : Launch) (Z : State) (a0 : Array Value) (hw : ∀ d ∈ tables_1, d.before a0 Z = true) (p0 p1 : Int64) (h0 : Heap) :
    Does l Z (⟨"java/lang/Long", "compareUnsigned", "(JJ)I"⟩ : MethodName) jdk_35_method_43_code 4 (some .int) [] ({ frames := 1, cells := 0, slots := 0, locals := 15 } : Room) #[(.long p0), (.long p1)] h0 (Pur h0 (.int (o_cmp (p0 + (-9223372036854775808 : Int64)) (p1 + (-9223372036854775808 : Int64))))) := by
  refine Does.of (plainFor_of_name o_pn0) ?_
  intro p e s m below meth c T0 hx hby hml hown hnm hret hlk hZ X0 e0
  have hown : s.vm.findClass "java/lang/Long" = some m.cls := hown
  have hml : c.maxLocals = 4 := hml
  have hret : meth.sig.returnType = some .int := hret
  refine o_entry (o_ef4 m p0 p1) ?_
  refine o_lloadN X0 hx (hb hby d_jdk_35_method_43_code_0) (v := p0) rfl (n := 1) rfl ?_
  refine o_ldc2_w X0 hx hZ (v := (-9223372036854775808 : Int64)) hown (hw _ (List.mem_of_getElem? (i := 59) rfl)) (hb hby d_jdk_35_method_43_code_1) (n := 4) rfl ?_
  refine o_ladd X0 hx (hb hby d_jdk_35_method_43_code_4) (v := (p0 + (-9223372036854775808 : Int64))) rfl (n := 5) rfl ?_
  refine o_lloadN X0 hx (hb hby d_jdk_35_method_43_code_5) (v := p1) rfl (n := 6) rfl ?_
  refine o_ldc2_w X0 hx hZ (v := (-9223372036854775808 : Int64)) hown (hw _ (List.mem_of_getElem? (i := 59) rfl)) (hb hby d_jdk_35_method_43_code_6) (n := 9) rfl ?_
  refine o_ladd X0 hx (hb hby d_jdk_35_method_43_code_9) (v := (p1 + (-9223372036854775808 : Int64))) rfl (n := 10) rfl ?_
  refine o_callS X0 hx hZ hown (hw _ (List.mem_of_getElem? (i := 60) rfl)) (hw _ (List.mem_of_getElem? (i := 61) rfl)) (hw _ (List.mem_of_getElem? (i := 57) rfl)) (hw _ (List.mem_of_getElem? (i := 62) rfl)) (by decide) e0 (argsL := [(.long (p0 + (-9223372036854775808 : Int64))), (.long (p1 + (-9223372036854775808 : Int64)))]) (rest := []) (c_compare l Z a0 hw (p0 + (-9223372036854775808 : Int64)) (p1 + (-9223372036854775808 : Int64)) h0) 0 (by decide) (by decide) (by decide) (by decide) (by rw [hml]; rfl) (lenOf o_pd0 rfl) rfl (Nat.le_of_eq rfl) (hb hby d_jdk_35_method_43_code_10) (n := 13) rfl ?_
  intro v1 T1 L1 X1 q1
  obtain ⟨rfl, e1, rfl⟩ := q1
  show Goes p e below s _ _ _ (T1.setTop (mkF m 13 #[.val (.long p0), .second, .val (.long p1), .second] [(.int (o_cmp (p0 + (-9223372036854775808 : Int64)) (p1 + (-9223372036854775808 : Int64))))]))
  exact o_ireturn X1 hx hret hlk (hb hby d_jdk_35_method_43_code_13) (by decide) (by decide) e1 ⟨rfl, rfl, rfl⟩
theorem d_jdk_35_method_50_code_0 : decode jdk_35_method_50_code 0 = .ok (.lload_n 0, 1) := by decide +kernel
theorem d_jdk_35_method_50_code_1 : decode jdk_35_method_50_code 1 = .ok (.lload_n 0, 1) := by decide +kernel
theorem d_jdk_35_method_50_code_2 : decode jdk_35_method_50_code 2 = .ok (.iconst 1, 1) := by decide +kernel
theorem d_jdk_35_method_50_code_3 : decode jdk_35_method_50_code 3 = .ok (.lushr, 1) := by decide +kernel
theorem d_jdk_35_method_50_code_4 : decode jdk_35_method_50_code 4 = .ok (.ldc2_w 314, 3) := by decide +kernel
theorem d_jdk_35_method_50_code_7 : decode jdk_35_method_50_code 7 = .ok (.land, 1) := by decide +kernel
theorem d_jdk_35_method_50_code_8 : decode jdk_35_method_50_code 8 = .ok (.lsub, 1) := by decide +kernel
theorem d_jdk_35_method_50_code_9 : decode jdk_35_method_50_code 9 = .ok (.lstore_n 0, 1) := by decide +kernel
theorem d_jdk_35_method_50_code_10 : decode jdk_35_method_50_code 10 = .ok (.lload_n 0, 1) := by decide +kernel
theorem d_jdk_35_method_50_code_11 : decode jdk_35_method_50_code 11 = .ok (.ldc2_w 316, 3) := by decide +kernel
theorem d_jdk_35_method_50_code_14 : decode jdk_35_method_50_code 14 = .ok (.land, 1) := by decide +kernel
theorem d_jdk_35_method_50_code_15 : decode jdk_35_method_50_code 15 = .ok (.lload_n 0, 1) := by decide +kernel
theorem d_jdk_35_method_50_code_16 : decode jdk_35_method_50_code 16 = .ok (.iconst 2, 1) := by decide +kernel
theorem d_jdk_35_method_50_code_17 : decode jdk_35_method_50_code 17 = .ok (.lushr, 1) := by decide +kernel
theorem d_jdk_35_method_50_code_18 : decode jdk_35_method_50_code 18 = .ok (.ldc2_w 316, 3) := by decide +kernel
theorem d_jdk_35_method_50_code_21 : decode jdk_35_method_50_code 21 = .ok (.land, 1) := by decide +kernel
theorem d_jdk_35_method_50_code_22 : decode jdk_35_method_50_code 22 = .ok (.ladd, 1) := by decide +kernel
theorem d_jdk_35_method_50_code_23 : decode jdk_35_method_50_code 23 = .ok (.lstore_n 0, 1) := by decide +kernel
theorem d_jdk_35_method_50_code_24 : decode jdk_35_method_50_code 24 = .ok (.lload_n 0, 1) := by decide +kernel
theorem d_jdk_35_method_50_code_25 : decode jdk_35_method_50_code 25 = .ok (.lload_n 0, 1) := by decide +kernel
theorem d_jdk_35_method_50_code_26 : decode jdk_35_method_50_code 26 = .ok (.iconst 4, 1) := by decide +kernel
theorem d_jdk_35_method_50_code_27 : decode jdk_35_method_50_code 27 = .ok (.lushr, 1) := by decide +kernel
theorem d_jdk_35_method_50_code_28 : decode jdk_35_method_50_code 28 = .ok (.ladd, 1) := by decide +kernel
theorem d_jdk_35_method_50_code_29 : decode jdk_35_method_50_code 29 = .ok (.ldc2_w 318, 3) := by decide +kernel
theorem d_jdk_35_method_50_code_32 : decode jdk_35_method_50_code 32 = .ok (.land, 1) := by decide +kernel
theorem d_jdk_35_method_50_code_33 : decode jdk_35_method_50_code 33 = .ok (.lstore_n 0, 1) := by decide +kernel
theorem d_jdk_35_method_50_code_34 : decode jdk_35_method_50_code 34 = .ok (.lload_n 0, 1) := by decide +kernel
theorem d_jdk_35_method_50_code_35 : decode jdk_35_method_50_code 35 = .ok (.lload_n 0, 1) := by decide +kernel
theorem d_jdk_35_method_50_code_36 : decode jdk_35_method_50_code 36 = .ok (.bipush 8, 2) := by decide +kernel
theorem d_jdk_35_method_50_code_38 : decode jdk_35_method_50_code 38 = .ok (.lushr, 1) := by decide +kernel
theorem d_jdk_35_method_50_code_39 : decode jdk_35_method_50_code 39 = .ok (.ladd, 1) := by decide +kernel
theorem d_jdk_35_method_50_code_40 : decode jdk_35_method_50_code 40 = .ok (.lstore_n 0, 1) := by decide +kernel
theorem d_jdk_35_method_50_code_41 : decode jdk_35_method_50_code 41 = .ok (.lload_n 0, 1) := by decide +kernel
theorem d_jdk_35_method_50_code_42 : decode jdk_35_method_50_code 42 = .ok (.lload_n 0, 1) := by decide +kernel
theorem d_jdk_35_method_50_code_43 : decode jdk_35_method_50_code 43 = .ok (.bipush 16, 2) := by decide +kernel
theorem d_jdk_35_method_50_code_45 : decode jdk_35_method_50_code 45 = .ok (.lushr, 1) := by decide +kernel
theorem d_jdk_35_method_50_code_46 : decode jdk_35_method_50_code 46 = .ok (.ladd, 1) := by decide +kernel
theorem d_jdk_35_method_50_code_47 : decode jdk_35_method_50_code 47 = .ok (.lstore_n 0, 1) := by decide +kernel
theorem d_jdk_35_method_50_code_48 : decode jdk_35_method_50_code 48 = .ok (.lload_n 0, 1) := by decide +kernel
theorem d_jdk_35_method_50_code_49 : decode jdk_35_method_50_code 49 = .ok (.lload_n 0, 1) := by decide +kernel
theorem d_jdk_35_method_50_code_50 : decode jdk_35_method_50_code 50 = .ok (.bipush 32, 2) := by decide +kernel
theorem d_jdk_35_method_50_code_52 : decode jdk_35_method_50_code 52 = .ok (.lushr, 1) := by decide +kernel
theorem d_jdk_35_method_50_code_53 : decode jdk_35_method_50_code 53 = .ok (.ladd, 1) := by decide +kernel
theorem d_jdk_35_method_50_code_54 : decode jdk_35_method_50_code 54 = .ok (.lstore_n 0, 1) := by decide +kernel
theorem d_jdk_35_method_50_code_55 : decode jdk_35_method_50_code 55 = .ok (.lload_n 0, 1) := by decide +kernel
theorem d_jdk_35_method_50_code_56 : decode jdk_35_method_50_code 56 = .ok (.l2i, 1) := by decide +kernel
theorem d_jdk_35_method_50_code_57 : decode jdk_35_method_50_code 57 = .ok (.bipush 127, 2) := by decide +kernel
theorem d_jdk_35_method_50_code_59 : decode jdk_35_method_50_code 59 = .ok (.iand, 1) := by decide +kernel
theorem d_jdk_35_method_50_code_60 : decode jdk_35_method_50_code 60 = .ok (.ireturn, 1) := by decide +kernel
theorem o_ef5 (m : MethodId) (p0 : Int64) : entryFrame m #[(.long p0)] 2 = mkF m 0 #[.val (.long p0), .second] [] := by first | (simp [entryFrame, mkF, argsToLocals, Value.category]; done) | rfl
set_option maxRecDepth 65536 in
set_option maxHeartbeats 40000000 in
theorem c_bitCount (l : Launch) (Z : State) (a0 : Array Value) (hw : ∀ d ∈ tables_1, d.before a0 Z = true) (p0 : Int64) (h0 : Heap) :
    Does l Z (⟨"java/lang/Long", "bitCount", "(J)I"⟩ : MethodName) jdk_35_method_50_code 2 (some .int) [] ({ frames := 0, cells := 0, slots := 0, locals := 0 } : Room) #[(.long p0)] h0 (Pur h0 (.int (o_bc p0))) := by
  refine Does.of (plainFor_of_name o_pn0) ?_
  intro p e s m below meth c T0 hx hby hml hown hnm hret hlk hZ X0 e0
  have hown : s.vm.findClass "java/lang/Long" = some m.cls := hown
  have hml : c.maxLocals = 2 := hml
  have hret : meth.sig.returnType = some .int := hret
  refine o_entry (o_ef5 m p0) ?_
  refine o_lloadN X0 hx (hb hby d_jdk_35_method_50_code_0) (v := p0) rfl (n := 1) rfl ?_
  refine o_lloadN X0 hx (hb hby d_jdk_35_method_50_code_1) (v := p0) rfl (n := 2) rfl ?_
  refine o_iconst X0 hx (hb hby d_jdk_35_method_50_code_2) (v := (1 : Int32)) rfl (n := 3) rfl ?_
  refine o_lushr X0 hx (hb hby d_jdk_35_method_50_code_3) (v := (p0.toUInt64 >>> (1 : UInt64)).toInt64) (congrArg (fun q : UInt64 => (p0.toUInt64 >>> q).toInt64) (show ((1 : Int32) &&& 0x3f).toInt64.toUInt64 = 1 by decide)) (n := 4) rfl ?_
  refine o_ldc2_w X0 hx hZ (v := (6148914691236517205 : Int64)) hown (hw _ (List.mem_of_getElem? (i := 66) rfl)) (hb hby d_jdk_35_method_50_code_4) (n := 7) rfl ?_
  refine o_land X0 hx (hb hby d_jdk_35_method_50_code_7) (v := ((p0.toUInt64 >>> (1 : UInt64)).toInt64 &&& (6148914691236517205 : Int64))) rfl (n := 8) rfl ?_
  refine o_lsub X0 hx (hb hby d_jdk_35_method_50_code_8) (v := (o_k1 p0)) rfl (n := 9) rfl ?_
  refine o_lstoreN X0 hx (hb hby d_jdk_35_method_50_code_9) (Ls' := #[.val (.long (o_k1 p0)), .second]) rfl (n := 10) rfl ?_
  refine o_lloadN X0 hx (hb hby d_jdk_35_method_50_code_10) (v := (o_k1 p0)) rfl (n := 11) rfl ?_
  refine o_ldc2_w X0 hx hZ (v := (3689348814741910323 : Int64)) hown (hw _ (List.mem_of_getElem? (i := 67) rfl)) (hb hby d_jdk_35_method_50_code_11) (n := 14) rfl ?_
  refine o_land X0 hx (hb hby d_jdk_35_method_50_code_14) (v := ((o_k1 p0) &&& (3689348814741910323 : Int64))) rfl (n := 15) rfl ?_
  refine o_lloadN X0 hx (hb hby d_jdk_35_method_50_code_15) (v := (o_k1 p0)) rfl (n := 16) rfl ?_
  refine o_iconst X0 hx (hb hby d_jdk_35_method_50_code_16) (v := (2 : Int32)) rfl (n := 17) rfl ?_
  refine o_lushr X0 hx (hb hby d_jdk_35_method_50_code_17) (v := ((o_k1 p0).toUInt64 >>> (2 : UInt64)).toInt64) (congrArg (fun q : UInt64 => ((o_k1 p0).toUInt64 >>> q).toInt64) (show ((2 : Int32) &&& 0x3f).toInt64.toUInt64 = 2 by decide)) (n := 18) rfl ?_
  refine o_ldc2_w X0 hx hZ (v := (3689348814741910323 : Int64)) hown (hw _ (List.mem_of_getElem? (i := 67) rfl)) (hb hby d_jdk_35_method_50_code_18) (n := 21) rfl ?_
  refine o_land X0 hx (hb hby d_jdk_35_method_50_code_21) (v := (((o_k1 p0).toUInt64 >>> (2 : UInt64)).toInt64 &&& (3689348814741910323 : Int64))) rfl (n := 22) rfl ?_
  refine o_ladd X0 hx (hb hby d_jdk_35_method_50_code_22) (v := (o_k2 (o_k1 p0))) rfl (n := 23) rfl ?_
  refine o_lstoreN X0 hx (hb hby d_jdk_35_method_50_code_23) (Ls' := #[.val (.long (o_k2 (o_k1 p0))), .second]) rfl (n := 24) rfl ?_
  refine o_lloadN X0 hx (hb hby d_jdk_35_method_50_code_24) (v := (o_k2 (o_k1 p0))) rfl (n := 25) rfl ?_
  refine o_lloadN X0 hx (hb hby d_jdk_35_method_50_code_25) (v := (o_k2 (o_k1 p0))) rfl (n := 26) rfl ?_
  refine o_iconst X0 hx (hb hby d_jdk_35_method_50_code_26) (v := (4 : Int32)) rfl (n := 27) rfl ?_
  refine o_lushr X0 hx (hb hby d_jdk_35_method_50_code_27) (v := ((o_k2 (o_k1 p0)).toUInt64 >>> (4 : UInt64)).toInt64) (congrArg (fun q : UInt64 => ((o_k2 (o_k1 p0)).toUInt64 >>> q).toInt64) (show ((4 : Int32) &&& 0x3f).toInt64.toUInt64 = 4 by decide)) (n := 28) rfl ?_
  refine o_ladd X0 hx (hb hby d_jdk_35_method_50_code_28) (v := ((o_k2 (o_k1 p0)) + ((o_k2 (o_k1 p0)).toUInt64 >>> (4 : UInt64)).toInt64)) rfl (n := 29) rfl ?_
  refine o_ldc2_w X0 hx hZ (v := (1085102592571150095 : Int64)) hown (hw _ (List.mem_of_getElem? (i := 68) rfl)) (hb hby d_jdk_35_method_50_code_29) (n := 32) rfl ?_
  refine o_land X0 hx (hb hby d_jdk_35_method_50_code_32) (v := (o_k4 (o_k2 (o_k1 p0)))) rfl (n := 33) rfl ?_
  refine o_lstoreN X0 hx (hb hby d_jdk_35_method_50_code_33) (Ls' := #[.val (.long (o_k4 (o_k2 (o_k1 p0)))), .second]) rfl (n := 34) rfl ?_
  refine o_lloadN X0 hx (hb hby d_jdk_35_method_50_code_34) (v := (o_k4 (o_k2 (o_k1 p0)))) rfl (n := 35) rfl ?_
  refine o_lloadN X0 hx (hb hby d_jdk_35_method_50_code_35) (v := (o_k4 (o_k2 (o_k1 p0)))) rfl (n := 36) rfl ?_
  refine o_bipush X0 hx (hb hby d_jdk_35_method_50_code_36) (v := (8 : Int32)) rfl (n := 38) rfl ?_
  refine o_lushr X0 hx (hb hby d_jdk_35_method_50_code_38) (v := ((o_k4 (o_k2 (o_k1 p0))).toUInt64 >>> (8 : UInt64)).toInt64) (congrArg (fun q : UInt64 => ((o_k4 (o_k2 (o_k1 p0))).toUInt64 >>> q).toInt64) (show ((8 : Int32) &&& 0x3f).toInt64.toUInt64 = 8 by decide)) (n := 39) rfl ?_
  refine o_ladd X0 hx (hb hby d_jdk_35_method_50_code_39) (v := (o_k8 (o_k4 (o_k2 (o_k1 p0))))) rfl (n := 40) rfl ?_
  refine o_lstoreN X0 hx (hb hby d_jdk_35_method_50_code_40) (Ls' := #[.val (.long (o_k8 (o_k4 (o_k2 (o_k1 p0))))), .second]) rfl (n := 41) rfl ?_
  refine o_lloadN X0 hx (hb hby d_jdk_35_method_50_code_41) (v := (o_k8 (o_k4 (o_k2 (o_k1 p0))))) rfl (n := 42) rfl ?_
  refine o_lloadN X0 hx (hb hby d_jdk_35_method_50_code_42) (v := (o_k8 (o_k4 (o_k2 (o_k1 p0))))) rfl (n := 43) rfl ?_
  refine o_bipush X0 hx (hb hby d_jdk_35_method_50_code_43) (v := (16 : Int32)) rfl (n := 45) rfl ?_
  refine o_lushr X0 hx (hb hby d_jdk_35_method_50_code_45) (v := ((o_k8 (o_k4 (o_k2 (o_k1 p0)))).toUInt64 >>> (16 : UInt64)).toInt64) (congrArg (fun q : UInt64 => ((o_k8 (o_k4 (o_k2 (o_k1 p0)))).toUInt64 >>> q).toInt64) (show ((16 : Int32) &&& 0x3f).toInt64.toUInt64 = 16 by decide)) (n := 46) rfl ?_
  refine o_ladd X0 hx (hb hby d_jdk_35_method_50_code_46) (v := (o_k16 (o_k8 (o_k4 (o_k2 (o_k1 p0)))))) rfl (n := 47) rfl ?_
  refine o_lstoreN X0 hx (hb hby d_jdk_35_method_50_code_47) (Ls' := #[.val (.long (o_k16 (o_k8 (o_k4 (o_k2 (o_k1 p0)))))), .second]) rfl (n := 48) rfl ?_
  refine o_lloadN X0 hx (hb hby d_jdk_35_method_50_code_48) (v := (o_k16 (o_k8 (o_k4 (o_k2 (o_k1 p0)))))) rfl (n := 49) rfl ?_
  refine o_lloadN X0 hx (hb hby d_jdk_35_method_50_code_49) (v := (o_k16 (o_k8 (o_k4 (o_k2 (o_k1 p0)))))) rfl (n := 50) rfl ?_
  refine o_bipush X0 hx (hb hby d_jdk_35_method_50_code_50) (v := (32 : Int32)) rfl (n := 52) rfl ?_
  refine o_lushr X0 hx (hb hby d_jdk_35_method_50_code_52) (v := ((o_k16 (o_k8 (o_k4 (o_k2 (o_k1 p0))))).toUInt64 >>> (32 : UInt64)).toInt64) (congrArg (fun q : UInt64 => ((o_k16 (o_k8 (o_k4 (o_k2 (o_k1 p0))))).toUInt64 >>> q).toInt64) (show ((32 : Int32) &&& 0x3f).toInt64.toUInt64 = 32 by decide)) (n := 53) rfl ?_
  refine o_ladd X0 hx (hb hby d_jdk_35_method_50_code_53) (v := (o_k32 (o_k16 (o_k8 (o_k4 (o_k2 (o_k1 p0))))))) rfl (n := 54) rfl ?_
  refine o_lstoreN X0 hx (hb hby d_jdk_35_method_50_code_54) (Ls' := #[.val (.long (o_k32 (o_k16 (o_k8 (o_k4 (o_k2 (o_k1 p0))))))), .second]) rfl (n := 55) rfl ?_
  refine o_lloadN X0 hx (hb hby d_jdk_35_method_50_code_55) (v := (o_k32 (o_k16 (o_k8 (o_k4 (o_k2 (o_k1 p0))))))) rfl (n := 56) rfl ?_
  refine o_l2i X0 hx (hb hby d_jdk_35_method_50_code_56) (v := (o_k32 (o_k16 (o_k8 (o_k4 (o_k2 (o_k1 p0)))))).toInt32) rfl (n := 57) rfl ?_
  refine o_bipush X0 hx (hb hby d_jdk_35_method_50_code_57) (v := (127 : Int32)) rfl (n := 59) rfl ?_
  refine o_iand X0 hx (hb hby d_jdk_35_method_50_code_59) (v := ((o_k32 (o_k16 (o_k8 (o_k4 (o_k2 (o_k1 p0)))))).toInt32 &&& (127 : Int32))) rfl (n := 60) rfl ?_
  exact o_ireturn X0 hx hret hlk (hb hby d_jdk_35_method_50_code_60) (by decide) (by decide) e0 ⟨rfl, rfl, rfl⟩
theorem d_jdk_33_method_47_code_0 : decode jdk_33_method_47_code 0 = .ok (.iload_n 0, 1) := by decide +kernel
theorem d_jdk_33_method_47_code_1 : decode jdk_33_method_47_code 1 = .ok (.ifCond .gt 14, 3) := by decide +kernel
theorem d_jdk_33_method_47_code_15 : decode jdk_33_method_47_code 15 = .ok (.bipush 31, 2) := by decide +kernel
theorem d_jdk_33_method_47_code_17 : decode jdk_33_method_47_code 17 = .ok (.istore_n 1, 1) := by decide +kernel
theorem d_jdk_33_method_47_code_18 : decode jdk_33_method_47_code 18 = .ok (.iload_n 0, 1) := by decide +kernel
theorem d_jdk_33_method_47_code_19 : decode jdk_33_method_47_code 19 = .ok (.ldc_w 264, 3) := by decide +kernel
theorem d_jdk_33_method_47_code_22 : decode jdk_33_method_47_code 22 = .ok (.if_icmp .lt 11, 3) := by decide +kernel
theorem d_jdk_33_method_47_code_33 : decode jdk_33_method_47_code 33 = .ok (.iload_n 0, 1) := by decide +kernel
theorem d_jdk_33_method_47_code_34 : decode jdk_33_method_47_code 34 = .ok (.sipush 256, 3) := by decide +kernel
theorem d_jdk_33_method_47_code_37 : decode jdk_33_method_47_code 37 = .ok (.if_icmp .lt 11, 3) := by decide +kernel
theorem d_jdk_33_method_47_code_48 : decode jdk_33_method_47_code 48 = .ok (.iload_n 0, 1) := by decide +kernel
theorem d_jdk_33_method_47_code_49 : decode jdk_33_method_47_code 49 = .ok (.bipush 16, 2) := by decide +kernel
theorem d_jdk_33_method_47_code_51 : decode jdk_33_method_47_code 51 = .ok (.if_icmp .lt 10, 3) := by decide +kernel
theorem d_jdk_33_method_47_code_61 : decode jdk_33_method_47_code 61 = .ok (.iload_n 0, 1) := by decide +kernel
theorem d_jdk_33_method_47_code_62 : decode jdk_33_method_47_code 62 = .ok (.iconst 4, 1) := by decide +kernel
theorem d_jdk_33_method_47_code_63 : decode jdk_33_method_47_code 63 = .ok (.if_icmp .lt 10, 3) := by decide +kernel
theorem d_jdk_33_method_47_code_73 : decode jdk_33_method_47_code 73 = .ok (.iload_n 1, 1) := by decide +kernel
theorem d_jdk_33_method_47_code_74 : decode jdk_33_method_47_code 74 = .ok (.iload_n 0, 1) := by decide +kernel
theorem d_jdk_33_method_47_code_75 : decode jdk_33_method_47_code 75 = .ok (.iconst 1, 1) := by decide +kernel
theorem d_jdk_33_method_47_code_76 : decode jdk_33_method_47_code 76 = .ok (.iushr, 1) := by decide +kernel
theorem d_jdk_33_method_47_code_77 : decode jdk_33_method_47_code 77 = .ok (.isub, 1) := by decide +kernel
theorem d_jdk_33_method_47_code_78 : decode jdk_33_method_47_code 78 = .ok (.ireturn, 1) := by decide +kernel
theorem d_jdk_33_method_47_code_66 : decode jdk_33_method_47_code 66 = .ok (.iinc 1 (-2), 3) := by decide +kernel
theorem d_jdk_33_method_47_code_69 : decode jdk_33_method_47_code 69 = .ok (.iload_n 0, 1) := by decide +kernel
theorem d_jdk_33_method_47_code_70 : decode jdk_33_method_47_code 70 = .ok (.iconst 2, 1) := by decide +kernel
theorem d_jdk_33_method_47_code_71 : decode jdk_33_method_47_code 71 = .ok (.iushr, 1) := by decide +kernel
theorem d_jdk_33_method_47_code_72 : decode jdk_33_method_47_code 72 = .ok (.istore_n 0, 1) := by decide +kernel
theorem d_jdk_33_method_47_code_54 : decode jdk_33_method_47_code 54 = .ok (.iinc 1 (-4), 3) := by decide +kernel
theorem d_jdk_33_method_47_code_57 : decode jdk_33_method_47_code 57 = .ok (.iload_n 0, 1) := by decide +kernel
theorem d_jdk_33_method_47_code_58 : decode jdk_33_method_47_code 58 = .ok (.iconst 4, 1) := by decide +kernel
theorem d_jdk_33_method_47_code_59 : decode jdk_33_method_47_code 59 = .ok (.iushr, 1) := by decide +kernel
theorem d_jdk_33_method_47_code_60 : decode jdk_33_method_47_code 60 = .ok (.istore_n 0, 1) := by decide +kernel
theorem d_jdk_33_method_47_code_40 : decode jdk_33_method_47_code 40 = .ok (.iinc 1 (-8), 3) := by decide +kernel
theorem d_jdk_33_method_47_code_43 : decode jdk_33_method_47_code 43 = .ok (.iload_n 0, 1) := by decide +kernel
theorem d_jdk_33_method_47_code_44 : decode jdk_33_method_47_code 44 = .ok (.bipush 8, 2) := by decide +kernel
theorem d_jdk_33_method_47_code_46 : decode jdk_33_method_47_code 46 = .ok (.iushr, 1) := by decide +kernel
theorem d_jdk_33_method_47_code_47 : decode jdk_33_method_47_code 47 = .ok (.istore_n 0, 1) := by decide +kernel
theorem d_jdk_33_method_47_code_25 : decode jdk_33_method_47_code 25 = .ok (.iinc 1 (-16), 3) := by decide +kernel
theorem d_jdk_33_method_47_code_28 : decode jdk_33_method_47_code 28 = .ok (.iload_n 0, 1) := by decide +kernel
theorem d_jdk_33_method_47_code_29 : decode jdk_33_method_47_code 29 = .ok (.bipush 16, 2) := by decide +kernel
theorem d_jdk_33_method_47_code_31 : decode jdk_33_method_47_code 31 = .ok (.iushr, 1) := by decide +kernel
theorem d_jdk_33_method_47_code_32 : decode jdk_33_method_47_code 32 = .ok (.istore_n 0, 1) := by decide +kernel
theorem d_jdk_33_method_47_code_4 : decode jdk_33_method_47_code 4 = .ok (.iload_n 0, 1) := by decide +kernel
theorem d_jdk_33_method_47_code_5 : decode jdk_33_method_47_code 5 = .ok (.ifCond .ne 8, 3) := by decide +kernel
theorem d_jdk_33_method_47_code_8 : decode jdk_33_method_47_code 8 = .ok (.bipush 32, 2) := by decide +kernel
theorem d_jdk_33_method_47_code_10 : decode jdk_33_method_47_code 10 = .ok (.goto 4, 3) := by decide +kernel
theorem d_jdk_33_method_47_code_14 : decode jdk_33_method_47_code 14 = .ok (.ireturn, 1) := by decide +kernel
theorem d_jdk_33_method_47_code_13 : decode jdk_33_method_47_code 13 = .ok (.iconst 0, 1) := by decide +kernel
theorem o_ef6 (m : MethodId) (p0 : Int32) : entryFrame m #[(.int p0)] 2 = mkF m 0 #[.val (.int p0), .unset] [] := by first | (simp [entryFrame, mkF, argsToLocals, Value.category]; done) | rfl
theorem o_pn1 : plainName "java/lang/Integer" = true := by first | (simp [plainName, overriddenIn]; done) | decide +kernel
set_option maxRecDepth 65536 in
set_option maxHeartbeats 40000000 in
theorem c_nz (l : Launch) (Z : State) (a0 : Array Value) (hw : ∀ d ∈ tables_1, d.before a0 Z = true) (p0 : Int32) (h0 : Heap) :
    Does l Z (⟨"java/lang/Integer", "numberOfLeadingZeros", "(I)I"⟩ : MethodName) jdk_33_method_47_code 2 (some .int) [] ({ frames := 0, cells := 0, slots := 0, locals := 0 } : Room) #[(.int p0)] h0 (Pur h0 (.int (o_nz p0))) := by
  refine Does.of (plainFor_of_name o_pn1) ?_
  intro p e s m below meth c T0 hx hby hml hown hnm hret hlk hZ X0 e0
  have hown : s.vm.findClass "java/lang/Integer" = some m.cls := hown
  have hml : c.maxLocals = 2 := hml
  have hret : meth.sig.returnType = some .int := hret
  refine o_entry (o_ef6 m p0) ?_
  refine o_iloadN X0 hx (hb hby d_jdk_33_method_47_code_0) (v := p0) rfl (n := 1) rfl ?_
  by_cases hc1 : (0 : Int32) < p0
  · refine o_ifY X0 hx (hb hby d_jdk_33_method_47_code_1) (XT.i0_gt_t hc1) (by decide) (n := 15) (by decide) ?_
    refine o_bipush X0 hx (hb hby d_jdk_33_method_47_code_15) (v := (31 : Int32)) rfl (n := 17) rfl ?_
    refine o_istoreN X0 hx (hb hby d_jdk_33_method_47_code_17) (Ls' := #[.val (.int p0), .val (.int (31 : Int32))]) rfl (n := 18) rfl ?_
    refine o_iloadN X0 hx (hb hby d_jdk_33_method_47_code_18) (v := p0) rfl (n := 19) rfl ?_
    refine o_ldc_w X0 hx hZ (v := (65536 : Int32)) hown (hw _ (List.mem_of_getElem? (i := 90) rfl)) (hb hby d_jdk_33_method_47_code_19) (n := 22) rfl ?_
    by_cases hc22 : p0 < (65536 : Int32)
    · refine o_icmpY X0 hx (hb hby d_jdk_33_method_47_code_22) (XT.ii_lt_t hc22) (by decide) (n := 33) (by decide) ?_
      refine o_iloadN X0 hx (hb hby d_jdk_33_method_47_code_33) (v := p0) rfl (n := 34) rfl ?_
      refine o_sipush X0 hx (hb hby d_jdk_33_method_47_code_34) (v := (256 : Int32)) rfl (n := 37) rfl ?_
      by_cases hc37 : p0 < (256 : Int32)
      · refine o_icmpY X0 hx (hb hby d_jdk_33_method_47_code_37) (XT.ii_lt_t hc37) (by decide) (n := 48) (by decide) ?_
        refine o_iloadN X0 hx (hb hby d_jdk_33_method_47_code_48) (v := p0) rfl (n := 49) rfl ?_
        refine o_bipush X0 hx (hb hby d_jdk_33_method_47_code_49) (v := (16 : Int32)) rfl (n := 51) rfl ?_
        by_cases hc51 : p0 < (16 : Int32)
        · refine o_icmpY X0 hx (hb hby d_jdk_33_method_47_code_51) (XT.ii_lt_t hc51) (by decide) (n := 61) (by decide) ?_
          refine o_iloadN X0 hx (hb hby d_jdk_33_method_47_code_61) (v := p0) rfl (n := 62) rfl ?_
          refine o_iconst X0 hx (hb hby d_jdk_33_method_47_code_62) (v := (4 : Int32)) rfl (n := 63) rfl ?_
          by_cases hc63 : p0 < (4 : Int32)
          · refine o_icmpY X0 hx (hb hby d_jdk_33_method_47_code_63) (XT.ii_lt_t hc63) (by decide) (n := 73) (by decide) ?_
            refine o_iloadN X0 hx (hb hby d_jdk_33_method_47_code_73) (v := (31 : Int32)) rfl (n := 74) rfl ?_
            refine o_iloadN X0 hx (hb hby d_jdk_33_method_47_code_74) (v := p0) rfl (n := 75) rfl ?_
            refine o_iconst X0 hx (hb hby d_jdk_33_method_47_code_75) (v := (1 : Int32)) rfl (n := 76) rfl ?_
            refine o_iushr X0 hx (hb hby d_jdk_33_method_47_code_76) (v := (o_u1 p0)) rfl (n := 77) rfl ?_
            refine o_isub X0 hx (hb hby d_jdk_33_method_47_code_77) (v := ((31 : Int32) - (o_u1 p0))) rfl (n := 78) rfl ?_
            exact o_ireturn X0 hx hret hlk (hb hby d_jdk_33_method_47_code_78) (by decide) (by decide) e0 ⟨by first | (simp only [o_nz, o_nA, o_nB, o_nC, o_nD, o_nE, hc1, hc22, hc37, hc51, hc63, o_nz1, o_nz0, ↓reduceIte, eq_self]; done) | (simp [o_nz, o_nA, o_nB, o_nC, o_nD, o_nE, hc1, hc22, hc37, hc51, hc63]; done) | (simp [o_nz, o_nA, o_nB, o_nC, o_nD, o_nE, hc1, hc22, hc37, hc51, hc63, o_nz1, o_nz0]; done), rfl, rfl⟩
          · refine o_icmpN X0 hx (hb hby d_jdk_33_method_47_code_63) (XT.ii_lt_f hc63) (n := 66) rfl ?_
            refine o_iinc X0 hx (hb hby d_jdk_33_method_47_code_66) (w := (29 : Int32)) rfl (by decide) (Ls' := #[.val (.int p0), .val (.int (29 : Int32))]) rfl (n := 69) rfl ?_
            refine o_iloadN X0 hx (hb hby d_jdk_33_method_47_code_69) (v := p0) rfl (n := 70) rfl ?_
            refine o_iconst X0 hx (hb hby d_jdk_33_method_47_code_70) (v := (2 : Int32)) rfl (n := 71) rfl ?_
            refine o_iushr X0 hx (hb hby d_jdk_33_method_47_code_71) (v := (o_u2 p0)) rfl (n := 72) rfl ?_
            refine o_istoreN X0 hx (hb hby d_jdk_33_method_47_code_72) (Ls' := #[.val (.int (o_u2 p0)), .val (.int (29 : Int32))]) rfl (n := 73) rfl ?_
            refine o_iloadN X0 hx (hb hby d_jdk_33_method_47_code_73) (v := (29 : Int32)) rfl (n := 74) rfl ?_
            refine o_iloadN X0 hx (hb hby d_jdk_33_method_47_code_74) (v := (o_u2 p0)) rfl (n := 75) rfl ?_
            refine o_iconst X0 hx (hb hby d_jdk_33_method_47_code_75) (v := (1 : Int32)) rfl (n := 76) rfl ?_
            refine o_iushr X0 hx (hb hby d_jdk_33_method_47_code_76) (v := (o_u1 (o_u2 p0))) rfl (n := 77) rfl ?_
            refine o_isub X0 hx (hb hby d_jdk_33_method_47_code_77) (v := ((29 : Int32) - (o_u1 (o_u2 p0)))) rfl (n := 78) rfl ?_
            exact o_ireturn X0 hx hret hlk (hb hby d_jdk_33_method_47_code_78) (by decide) (by decide) e0 ⟨by first | (simp only [o_nz, o_nA, o_nB, o_nC, o_nD, o_nE, hc1, hc22, hc37, hc51, hc63, o_nz1, o_nz0, ↓reduceIte, eq_self]; done) | (simp [o_nz, o_nA, o_nB, o_nC, o_nD, o_nE, hc1, hc22, hc37, hc51, hc63]; done) | (simp [o_nz, o_nA, o_nB, o_nC, o_nD, o_nE, hc1, hc22, hc37, hc51, hc63, o_nz1, o_nz0]; done), rfl, rfl⟩
        · refine o_icmpN X0 hx (hb hby d_jdk_33_method_47_code_51) (XT.ii_lt_f hc51) (n := 54) rfl ?_
          refine o_iinc X0 hx (hb hby d_jdk_33_method_47_code_54) (w := (27 : Int32)) rfl (by decide) (Ls' := #[.val (.int p0), .val (.int (27 : Int32))]) rfl (n := 57) rfl ?_
          refine o_iloadN X0 hx (hb hby d_jdk_33_method_47_code_57) (v := p0) rfl (n := 58) rfl ?_
          refine o_iconst X0 hx (hb hby d_jdk_33_method_47_code_58) (v := (4 : Int32)) rfl (n := 59) rfl ?_
          refine o_iushr X0 hx (hb hby d_jdk_33_method_47_code_59) (v := (o_u4 p0)) rfl (n := 60) rfl ?_
          refine o_istoreN X0 hx (hb hby d_jdk_33_method_47_code_60) (Ls' := #[.val (.int (o_u4 p0)), .val (.int (27 : Int32))]) rfl (n := 61) rfl ?_
          refine o_iloadN X0 hx (hb hby d_jdk_33_method_47_code_61) (v := (o_u4 p0)) rfl (n := 62) rfl ?_
          refine o_iconst X0 hx (hb hby d_jdk_33_method_47_code_62) (v := (4 : Int32)) rfl (n := 63) rfl ?_
          by_cases hc63 : (o_u4 p0) < (4 : Int32)
          · refine o_icmpY X0 hx (hb hby d_jdk_33_method_47_code_63) (XT.ii_lt_t hc63) (by decide) (n := 73) (by decide) ?_
            refine o_iloadN X0 hx (hb hby d_jdk_33_method_47_code_73) (v := (27 : Int32)) rfl (n := 74) rfl ?_
            refine o_iloadN X0 hx (hb hby d_jdk_33_method_47_code_74) (v := (o_u4 p0)) rfl (n := 75) rfl ?_
            refine o_iconst X0 hx (hb hby d_jdk_33_method_47_code_75) (v := (1 : Int32)) rfl (n := 76) rfl ?_
            refine o_iushr X0 hx (hb hby d_jdk_33_method_47_code_76) (v := (o_u1 (o_u4 p0))) rfl (n := 77) rfl ?_
            refine o_isub X0 hx (hb hby d_jdk_33_method_47_code_77) (v := ((27 : Int32) - (o_u1 (o_u4 p0)))) rfl (n := 78) rfl ?_
            exact o_ireturn X0 hx hret hlk (hb hby d_jdk_33_method_47_code_78) (by decide) (by decide) e0 ⟨by first | (simp only [o_nz, o_nA, o_nB, o_nC, o_nD, o_nE, hc1, hc22, hc37, hc51, hc63, o_nz1, o_nz0, ↓reduceIte, eq_self]; done) | (simp [o_nz, o_nA, o_nB, o_nC, o_nD, o_nE, hc1, hc22, hc37, hc51, hc63]; done) | (simp [o_nz, o_nA, o_nB, o_nC, o_nD, o_nE, hc1, hc22, hc37, hc51, hc63, o_nz1, o_nz0]; done), rfl, rfl⟩
          · refine o_icmpN X0 hx (hb hby d_jdk_33_method_47_code_63) (XT.ii_lt_f hc63) (n := 66) rfl ?_
            refine o_iinc X0 hx (hb hby d_jdk_33_method_47_code_66) (w := (25 : Int32)) rfl (by decide) (Ls' := #[.val (.int (o_u4 p0)), .val (.int (25 : Int32))]) rfl (n := 69) rfl ?_
            refine o_iloadN X0 hx (hb hby d_jdk_33_method_47_code_69) (v := (o_u4 p0)) rfl (n := 70) rfl ?_
            refine o_iconst X0 hx (hb hby d_jdk_33_method_47_code_70) (v := (2 : Int32)) rfl (n := 71) rfl ?_
            refine o_iushr X0 hx (hb hby d_jdk_33_method_47_code_71) (v := (o_u2 (o_u4 p0))) rfl (n := 72) rfl ?_
            refine o_istoreN X0 hx (hb hby d_jdk_33_method_47_code_72) (Ls' := #[.val (.int (o_u2 (o_u4 p0))), .val (.int (25 : Int32))]) rfl (n := 73) rfl ?_
            refine o_iloadN X0 hx (hb hby d_jdk_33_method_47_code_73) (v := (25 : Int32)) rfl (n := 74) rfl ?_
            refine o_iloadN X0 hx (hb hby d_jdk_33_method_47_code_74) (v := (o_u2 (o_u4 p0))) rfl (n := 75) rfl ?_
            refine o_iconst X0 hx (hb hby d_jdk_33_method_47_code_75) (v := (1 : Int32)) rfl (n := 76) rfl ?_
            refine o_iushr X0 hx (hb hby d_jdk_33_method_47_code_76) (v := (o_u1 (o_u2 (o_u4 p0)))) rfl (n := 77) rfl ?_
            refine o_isub X0 hx (hb hby d_jdk_33_method_47_code_77) (v := ((25 : Int32) - (o_u1 (o_u2 (o_u4 p0))))) rfl (n := 78) rfl ?_
            exact o_ireturn X0 hx hret hlk (hb hby d_jdk_33_method_47_code_78) (by decide) (by decide) e0 ⟨by first | (simp only [o_nz, o_nA, o_nB, o_nC, o_nD, o_nE, hc1, hc22, hc37, hc51, hc63, o_nz1, o_nz0, ↓reduceIte, eq_self]; done) | (simp [o_nz, o_nA, o_nB, o_nC, o_nD, o_nE, hc1, hc22, hc37, hc51, hc63]; done) | (simp [o_nz, o_nA, o_nB, o_nC, o_nD, o_nE, hc1, hc22, hc37, hc51, hc63, o_nz1, o_nz0]; done), rfl, rfl⟩
      · refine o_icmpN X0 hx (hb hby d_jdk_33_method_47_code_37) (XT.ii_lt_f hc37) (n := 40) rfl ?_
        refine o_iinc X0 hx (hb hby d_jdk_33_method_47_code_40) (w := (23 : Int32)) rfl (by decide) (Ls' := #[.val (.int p0), .val (.int (23 : Int32))]) rfl (n := 43) rfl ?_
        refine o_iloadN X0 hx (hb hby d_jdk_33_method_47_code_43) (v := p0) rfl (n := 44) rfl ?_
        refine o_bipush X0 hx (hb hby d_jdk_33_method_47_code_44) (v := (8 : Int32)) rfl (n := 46) rfl ?_
        refine o_iushr X0 hx (hb hby d_jdk_33_method_47_code_46) (v := (o_u8 p0)) rfl (n := 47) rfl ?_
        refine o_istoreN X0 hx (hb hby d_jdk_33_method_47_code_47) (Ls' := #[.val (.int (o_u8 p0)), .val (.int (23 : Int32))]) rfl (n := 48) rfl ?_
        refine o_iloadN X0 hx (hb hby d_jdk_33_method_47_code_48) (v := (o_u8 p0)) rfl (n := 49) rfl ?_
        refine o_bipush X0 hx (hb hby d_jdk_33_method_47_code_49) (v := (16 : Int32)) rfl (n := 51) rfl ?_
        by_cases hc51 : (o_u8 p0) < (16 : Int32)
        · refine o_icmpY X0 hx (hb hby d_jdk_33_method_47_code_51) (XT.ii_lt_t hc51) (by decide) (n := 61) (by decide) ?_
          refine o_iloadN X0 hx (hb hby d_jdk_33_method_47_code_61) (v := (o_u8 p0)) rfl (n := 62) rfl ?_
          refine o_iconst X0 hx (hb hby d_jdk_33_method_47_code_62) (v := (4 : Int32)) rfl (n := 63) rfl ?_
          by_cases hc63 : (o_u8 p0) < (4 : Int32)
          · refine o_icmpY X0 hx (hb hby d_jdk_33_method_47_code_63) (XT.ii_lt_t hc63) (by decide) (n := 73) (by decide) ?_
            refine o_iloadN X0 hx (hb hby d_jdk_33_method_47_code_73) (v := (23 : Int32)) rfl (n := 74) rfl ?_
            refine o_iloadN X0 hx (hb hby d_jdk_33_method_47_code_74) (v := (o_u8 p0)) rfl (n := 75) rfl ?_
            refine o_iconst X0 hx (hb hby d_jdk_33_method_47_code_75) (v := (1 : Int32)) rfl (n := 76) rfl ?_
            refine o_iushr X0 hx (hb hby d_jdk_33_method_47_code_76) (v := (o_u1 (o_u8 p0))) rfl (n := 77) rfl ?_
            refine o_isub X0 hx (hb hby d_jdk_33_method_47_code_77) (v := ((23 : Int32) - (o_u1 (o_u8 p0)))) rfl (n := 78) rfl ?_
            exact o_ireturn X0 hx hret hlk (hb hby d_jdk_33_method_47_code_78) (by decide) (by decide) e0 ⟨by first | (simp only [o_nz, o_nA, o_nB, o_nC, o_nD, o_nE, hc1, hc22, hc37, hc51, hc63, o_nz1, o_nz0, ↓reduceIte, eq_self]; done) | (simp [o_nz, o_nA, o_nB, o_nC, o_nD, o_nE, hc1, hc22, hc37, hc51, hc63]; done) | (simp [o_nz, o_nA, o_nB, o_nC, o_nD, o_nE, hc1, hc22, hc37, hc51, hc63, o_nz1, o_nz0]; done), rfl, rfl⟩
          · refine o_icmpN X0 hx (hb hby d_jdk_33_method_47_code_63) (XT.ii_lt_f hc63) (n := 66) rfl ?_
            refine o_iinc X0 hx (hb hby d_jdk_33_method_47_code_66) (w := (21 : Int32)) rfl (by decide) (Ls' := #[.val (.int (o_u8 p0)), .val (.int (21 : Int32))]) rfl (n := 69) rfl ?_
            refine o_iloadN X0 hx (hb hby d_jdk_33_method_47_code_69) (v := (o_u8 p0)) rfl (n := 70) rfl ?_
            refine o_iconst X0 hx (hb hby d_jdk_33_method_47_code_70) (v := (2 : Int32)) rfl (n := 71) rfl ?_
            refine o_iushr X0 hx (hb hby d_jdk_33_method_47_code_71) (v := (o_u2 (o_u8 p0))) rfl (n := 72) rfl ?_
            refine o_istoreN X0 hx (hb hby d_jdk_33_method_47_code_72) (Ls' := #[.val (.int (o_u2 (o_u8 p0))), .val (.int (21 : Int32))]) rfl (n := 73) rfl ?_
            refine o_iloadN X0 hx (hb hby d_jdk_33_method_47_code_73) (v := (21 : Int32)) rfl (n := 74) rfl ?_
            refine o_iloadN X0 hx (hb hby d_jdk_33_method_47_code_74) (v := (o_u2 (o_u8 p0))) rfl (n := 75) rfl ?_
            refine o_iconst X0 hx (hb hby d_jdk_33_method_47_code_75) (v := (1 : Int32)) rfl (n := 76) rfl ?_
            refine o_iushr X0 hx (hb hby d_jdk_33_method_47_code_76) (v := (o_u1 (o_u2 (o_u8 p0)))) rfl (n := 77) rfl ?_
            refine o_isub X0 hx (hb hby d_jdk_33_method_47_code_77) (v := ((21 : Int32) - (o_u1 (o_u2 (o_u8 p0))))) rfl (n := 78) rfl ?_
            exact o_ireturn X0 hx hret hlk (hb hby d_jdk_33_method_47_code_78) (by decide) (by decide) e0 ⟨by first | (simp only [o_nz, o_nA, o_nB, o_nC, o_nD, o_nE, hc1, hc22, hc37, hc51, hc63, o_nz1, o_nz0, ↓reduceIte, eq_self]; done) | (simp [o_nz, o_nA, o_nB, o_nC, o_nD, o_nE, hc1, hc22, hc37, hc51, hc63]; done) | (simp [o_nz, o_nA, o_nB, o_nC, o_nD, o_nE, hc1, hc22, hc37, hc51, hc63, o_nz1, o_nz0]; done), rfl, rfl⟩
        · refine o_icmpN X0 hx (hb hby d_jdk_33_method_47_code_51) (XT.ii_lt_f hc51) (n := 54) rfl ?_
          refine o_iinc X0 hx (hb hby d_jdk_33_method_47_code_54) (w := (19 : Int32)) rfl (by decide) (Ls' := #[.val (.int (o_u8 p0)), .val (.int (19 : Int32))]) rfl (n := 57) rfl ?_
          refine o_iloadN X0 hx (hb hby d_jdk_33_method_47_code_57) (v := (o_u8 p0)) rfl (n := 58) rfl ?_
          refine o_iconst X0 hx (hb hby d_jdk_33_method_47_code_58) (v := (4 : Int32)) rfl (n := 59) rfl ?_
          refine o_iushr X0 hx (hb hby d_jdk_33_method_47_code_59) (v := (o_u4 (o_u8 p0))) rfl (n := 60) rfl ?_
          refine o_istoreN X0 hx (hb hby d_jdk_33_method_47_code_60) (Ls' := #[.val (.int (o_u4 (o_u8 p0))), .val (.int (19 : Int32))]) rfl (n := 61) rfl ?_
          refine o_iloadN X0 hx (hb hby d_jdk_33_method_47_code_61) (v := (o_u4 (o_u8 p0))) rfl (n := 62) rfl ?_
          refine o_iconst X0 hx (hb hby d_jdk_33_method_47_code_62) (v := (4 : Int32)) rfl (n := 63) rfl ?_
          by_cases hc63 : (o_u4 (o_u8 p0)) < (4 : Int32)
          · refine o_icmpY X0 hx (hb hby d_jdk_33_method_47_code_63) (XT.ii_lt_t hc63) (by decide) (n := 73) (by decide) ?_
            refine o_iloadN X0 hx (hb hby d_jdk_33_method_47_code_73) (v := (19 : Int32)) rfl (n := 74) rfl ?_
            refine o_iloadN X0 hx (hb hby d_jdk_33_method_47_code_74) (v := (o_u4 (o_u8 p0))) rfl (n := 75) rfl ?_
            refine o_iconst X0 hx (hb hby d_jdk_33_method_47_code_75) (v := (1 : Int32)) rfl (n := 76) rfl ?_
            refine o_iushr X0 hx (hb hby d_jdk_33_method_47_code_76) (v := (o_u1 (o_u4 (o_u8 p0)))) rfl (n := 77) rfl ?_
            refine o_isub X0 hx (hb hby d_jdk_33_method_47_code_77) (v := ((19 : Int32) - (o_u1 (o_u4 (o_u8 p0))))) rfl (n := 78) rfl ?_
            exact o_ireturn X0 hx hret hlk (hb hby d_jdk_33_method_47_code_78) (by decide) (by decide) e0 ⟨by first | (simp only [o_nz, o_nA, o_nB, o_nC, o_nD, o_nE, hc1, hc22, hc37, hc51, hc63, o_nz1, o_nz0, ↓reduceIte, eq_self]; done) | (simp [o_nz, o_nA, o_nB, o_nC, o_nD, o_nE, hc1, hc22, hc37, hc51, hc63]; done) | (simp [o_nz, o_nA, o_nB, o_nC, o_nD, o_nE, hc1, hc22, hc37, hc51, hc63, o_nz1, o_nz0]; done), rfl, rfl⟩
          · refine o_icmpN X0 hx (hb hby d_jdk_33_method_47_code_63) (XT.ii_lt_f hc63) (n := 66) rfl ?_
            refine o_iinc X0 hx (hb hby d_jdk_33_method_47_code_66) (w := (17 : Int32)) rfl (by decide) (Ls' := #[.val (.int (o_u4 (o_u8 p0))), .val (.int (17 : Int32))]) rfl (n := 69) rfl ?_
            refine o_iloadN X0 hx (hb hby d_jdk_33_method_47_code_69) (v := (o_u4 (o_u8 p0))) rfl (n := 70) rfl ?_
            refine o_iconst X0 hx (hb hby d_jdk_33_method_47_code_70) (v := (2 : Int32)) rfl (n := 71) rfl ?_
            refine o_iushr X0 hx (hb hby d_jdk_33_method_47_code_71) (v := (o_u2 (o_u4 (o_u8 p0)))) rfl (n := 72) rfl ?_
            refine o_istoreN X0 hx (hb hby d_jdk_33_method_47_code_72) (Ls' := #[.val (.int (o_u2 (o_u4 (o_u8 p0)))), .val (.int (17 : Int32))]) rfl (n := 73) rfl ?_
            refine o_iloadN X0 hx (hb hby d_jdk_33_method_47_code_73) (v := (17 : Int32)) rfl (n := 74) rfl ?_
            refine o_iloadN X0 hx (hb hby d_jdk_33_method_47_code_74) (v := (o_u2 (o_u4 (o_u8 p0)))) rfl (n := 75) rfl ?_
            refine o_iconst X0 hx (hb hby d_jdk_33_method_47_code_75) (v := (1 : Int32)) rfl (n := 76) rfl ?_
            refine o_iushr X0 hx (hb hby d_jdk_33_method_47_code_76) (v := (o_u1 (o_u2 (o_u4 (o_u8 p0))))) rfl (n := 77) rfl ?_
            refine o_isub X0 hx (hb hby d_jdk_33_method_47_code_77) (v := ((17 : Int32) - (o_u1 (o_u2 (o_u4 (o_u8 p0)))))) rfl (n := 78) rfl ?_
            exact o_ireturn X0 hx hret hlk (hb hby d_jdk_33_method_47_code_78) (by decide) (by decide) e0 ⟨by first | (simp only [o_nz, o_nA, o_nB, o_nC, o_nD, o_nE, hc1, hc22, hc37, hc51, hc63, o_nz1, o_nz0, ↓reduceIte, eq_self]; done) | (simp [o_nz, o_nA, o_nB, o_nC, o_nD, o_nE, hc1, hc22, hc37, hc51, hc63]; done) | (simp [o_nz, o_nA, o_nB, o_nC, o_nD, o_nE, hc1, hc22, hc37, hc51, hc63, o_nz1, o_nz0]; done), rfl, rfl⟩
    · refine o_icmpN X0 hx (hb hby d_jdk_33_method_47_code_22) (XT.ii_lt_f hc22) (n := 25) rfl ?_
      refine o_iinc X0 hx (hb hby d_jdk_33_method_47_code_25) (w := (15 : Int32)) rfl (by decide) (Ls' := #[.val (.int p0), .val (.int (15 : Int32))]) rfl (n := 28) rfl ?_
      refine o_iloadN X0 hx (hb hby d_jdk_33_method_47_code_28) (v := p0) rfl (n := 29) rfl ?_
      refine o_bipush X0 hx (hb hby d_jdk_33_method_47_code_29) (v := (16 : Int32)) rfl (n := 31) rfl ?_
      refine o_iushr X0 hx (hb hby d_jdk_33_method_47_code_31) (v := (o_u16 p0)) rfl (n := 32) rfl ?_
      refine o_istoreN X0 hx (hb hby d_jdk_33_method_47_code_32) (Ls' := #[.val (.int (o_u16 p0)), .val (.int (15 : Int32))]) rfl (n := 33) rfl ?_
      refine o_iloadN X0 hx (hb hby d_jdk_33_method_47_code_33) (v := (o_u16 p0)) rfl (n := 34) rfl ?_
      refine o_sipush X0 hx (hb hby d_jdk_33_method_47_code_34) (v := (256 : Int32)) rfl (n := 37) rfl ?_
      by_cases hc37 : (o_u16 p0) < (256 : Int32)
      · refine o_icmpY X0 hx (hb hby d_jdk_33_method_47_code_37) (XT.ii_lt_t hc37) (by decide) (n := 48) (by decide) ?_
        refine o_iloadN X0 hx (hb hby d_jdk_33_method_47_code_48) (v := (o_u16 p0)) rfl (n := 49) rfl ?_
        refine o_bipush X0 hx (hb hby d_jdk_33_method_47_code_49) (v := (16 : Int32)) rfl (n := 51) rfl ?_
        by_cases hc51 : (o_u16 p0) < (16 : Int32)
        · refine o_icmpY X0 hx (hb hby d_jdk_33_method_47_code_51) (XT.ii_lt_t hc51) (by decide) (n := 61) (by decide) ?_
          refine o_iloadN X0 hx (hb hby d_jdk_33_method_47_code_61) (v := (o_u16 p0)) rfl (n := 62) rfl ?_
          refine o_iconst X0 hx (hb hby d_jdk_33_method_47_code_62) (v := (4 : Int32)) rfl (n := 63) rfl ?_
          by_cases hc63 : (o_u16 p0) < (4 : Int32)
          · refine o_icmpY X0 hx (hb hby d_jdk_33_method_47_code_63) (XT.ii_lt_t hc63) (by decide) (n := 73) (by decide) ?_
            refine o_iloadN X0 hx (hb hby d_jdk_33_method_47_code_73) (v := (15 : Int32)) rfl (n := 74) rfl ?_
            refine o_iloadN X0 hx (hb hby d_jdk_33_method_47_code_74) (v := (o_u16 p0)) rfl (n := 75) rfl ?_
            refine o_iconst X0 hx (hb hby d_jdk_33_method_47_code_75) (v := (1 : Int32)) rfl (n := 76) rfl ?_
            refine o_iushr X0 hx (hb hby d_jdk_33_method_47_code_76) (v := (o_u1 (o_u16 p0))) rfl (n := 77) rfl ?_
            refine o_isub X0 hx (hb hby d_jdk_33_method_47_code_77) (v := ((15 : Int32) - (o_u1 (o_u16 p0)))) rfl (n := 78) rfl ?_
            exact o_ireturn X0 hx hret hlk (hb hby d_jdk_33_method_47_code_78) (by decide) (by decide) e0 ⟨by first | (simp only [o_nz, o_nA, o_nB, o_nC, o_nD, o_nE, hc1, hc22, hc37, hc51, hc63, o_nz1, o_nz0, ↓reduceIte, eq_self]; done) | (simp [o_nz, o_nA, o_nB, o_nC, o_nD, o_nE, hc1, hc22, hc37, hc51, hc63]; done) | (simp [o_nz, o_nA, o_nB, o_nC, o_nD, o_nE, hc1, hc22, hc37, hc51, hc63, o_nz1, o_nz0]; done), rfl, rfl⟩
          · refine o_icmpN X0 hx (hb hby d_jdk_33_method_47_code_63) (XT.ii_lt_f hc63) (n := 66) rfl ?_
            refine o_iinc X0 hx (hb hby d_jdk_33_method_47_code_66) (w := (13 : Int32)) rfl (by decide) (Ls' := #[.val (.int (o_u16 p0)), .val (.int (13 : Int32))]) rfl (n := 69) rfl ?_
            refine o_iloadN X0 hx (hb hby d_jdk_33_method_47_code_69) (v := (o_u16 p0)) rfl (n := 70) rfl ?_
            refine o_iconst X0 hx (hb hby d_jdk_33_method_47_code_70) (v := (2 : Int32)) rfl (n := 71) rfl ?_
            refine o_iushr X0 hx (hb hby d_jdk_33_method_47_code_71) (v := (o_u2 (o_u16 p0))) rfl (n := 72) rfl ?_
            refine o_istoreN X0 hx (hb hby d_jdk_33_method_47_code_72) (Ls' := #[.val (.int (o_u2 (o_u16 p0))), .val (.int (13 : Int32))]) rfl (n := 73) rfl ?_
            refine o_iloadN X0 hx (hb hby d_jdk_33_method_47_code_73) (v := (13 : Int32)) rfl (n := 74) rfl ?_
            refine o_iloadN X0 hx (hb hby d_jdk_33_method_47_code_74) (v := (o_u2 (o_u16 p0))) rfl (n := 75) rfl ?_
            refine o_iconst X0 hx (hb hby d_jdk_33_method_47_code_75) (v := (1 : Int32)) rfl (n := 76) rfl ?_
            refine o_iushr X0 hx (hb hby d_jdk_33_method_47_code_76) (v := (o_u1 (o_u2 (o_u16 p0)))) rfl (n := 77) rfl ?_
            refine o_isub X0 hx (hb hby d_jdk_33_method_47_code_77) (v := ((13 : Int32) - (o_u1 (o_u2 (o_u16 p0))))) rfl (n := 78) rfl ?_
            exact o_ireturn X0 hx hret hlk (hb hby d_jdk_33_method_47_code_78) (by decide) (by decide) e0 ⟨by first | (simp only [o_nz, o_nA, o_nB, o_nC, o_nD, o_nE, hc1, hc22, hc37, hc51, hc63, o_nz1, o_nz0, ↓reduceIte, eq_self]; done) | (simp [o_nz, o_nA, o_nB, o_nC, o_nD, o_nE, hc1, hc22, hc37, hc51, hc63]; done) | (simp [o_nz, o_nA, o_nB, o_nC, o_nD, o_nE, hc1, hc22, hc37, hc51, hc63, o_nz1, o_nz0]; done), rfl, rfl⟩
        · refine o_icmpN X0 hx (hb hby d_jdk_33_method_47_code_51) (XT.ii_lt_f hc51) (n := 54) rfl ?_
          refine o_iinc X0 hx (hb hby d_jdk_33_method_47_code_54) (w := (11 : Int32)) rfl (by decide) (Ls' := #[.val (.int (o_u16 p0)), .val (.int (11 : Int32))]) rfl (n := 57) rfl ?_
          refine o_iloadN X0 hx (hb hby d_jdk_33_method_47_code_57) (v := (o_u16 p0)) rfl (n := 58) rfl ?_
          refine o_iconst X0 hx (hb hby d_jdk_33_method_47_code_58) (v := (4 : Int32)) rfl (n := 59) rfl ?_
          refine o_iushr X0 hx (hb hby d_jdk_33_method_47_code_59) (v := (o_u4 (o_u16 p0))) rfl (n := 60) rfl ?_
          refine o_istoreN X0 hx (hb hby d_jdk_33_method_47_code_60) (Ls' := #[.val (.int (o_u4 (o_u16 p0))), .val (.int (11 : Int32))]) rfl (n := 61) rfl ?_
          refine o_iloadN X0 hx (hb hby d_jdk_33_method_47_code_61) (v := (o_u4 (o_u16 p0))) rfl (n := 62) rfl ?_
          refine o_iconst X0 hx (hb hby d_jdk_33_method_47_code_62) (v := (4 : Int32)) rfl (n := 63) rfl ?_
          by_cases hc63 : (o_u4 (o_u16 p0)) < (4 : Int32)
          · refine o_icmpY X0 hx (hb hby d_jdk_33_method_47_code_63) (XT.ii_lt_t hc63) (by decide) (n := 73) (by decide) ?_
            refine o_iloadN X0 hx (hb hby d_jdk_33_method_47_code_73) (v := (11 : Int32)) rfl (n := 74) rfl ?_
            refine o_iloadN X0 hx (hb hby d_jdk_33_method_47_code_74) (v := (o_u4 (o_u16 p0))) rfl (n := 75) rfl ?_
            refine o_iconst X0 hx (hb hby d_jdk_33_method_47_code_75) (v := (1 : Int32)) rfl (n := 76) rfl ?_
            refine o_iushr X0 hx (hb hby d_jdk_33_method_47_code_76) (v := (o_u1 (o_u4 (o_u16 p0)))) rfl (n := 77) rfl ?_
            refine o_isub X0 hx (hb hby d_jdk_33_method_47_code_77) (v := ((11 : Int32) - (o_u1 (o_u4 (o_u16 p0))))) rfl (n := 78) rfl ?_
            exact o_ireturn X0 hx hret hlk (hb hby d_jdk_33_method_47_code_78) (by decide) (by decide) e0 ⟨by first | (simp only [o_nz, o_nA, o_nB, o_nC, o_nD, o_nE, hc1, hc22, hc37, hc51, hc63, o_nz1, o_nz0, ↓reduceIte, eq_self]; done) | (simp [o_nz, o_nA, o_nB, o_nC, o_nD, o_nE, hc1, hc22, hc37, hc51, hc63]; done) | (simp [o_nz, o_nA, o_nB, o_nC, o_nD, o_nE, hc1, hc22, hc37, hc51, hc63, o_nz1, o_nz0]; done), rfl, rfl⟩
          · refine o_icmpN X0 hx (hb hby d_jdk_33_method_47_code_63) (XT.ii_lt_f hc63) (n := 66) rfl ?_
            refine o_iinc X0 hx (hb hby d_jdk_33_method_47_code_66) (w := (9 : Int32)) rfl (by decide) (Ls' := #[.val (.int (o_u4 (o_u16 p0))), .val (.int (9 : Int32))]) rfl (n := 69) rfl ?_
            refine o_iloadN X0 hx (hb hby d_jdk_33_method_47_code_69) (v := (o_u4 (o_u16 p0))) rfl (n := 70) rfl ?_
            refine o_iconst X0 hx (hb hby d_jdk_33_method_47_code_70) (v := (2 : Int32)) rfl (n := 71) rfl ?_
            refine o_iushr X0 hx (hb hby d_jdk_33_method_47_code_71) (v := (o_u2 (o_u4 (o_u16 p0)))) rfl (n := 72) rfl ?_
            refine o_istoreN X0 hx (hb hby d_jdk_33_method_47_code_72) (Ls' := #[.val (.int (o_u2 (o_u4 (o_u16 p0)))), .val (.int (9 : Int32))]) rfl (n := 73) rfl ?_
            refine o_iloadN X0 hx (hb hby d_jdk_33_method_47_code_73) (v := (9 : Int32)) rfl (n := 74) rfl ?_
            refine o_iloadN X0 hx (hb hby d_jdk_33_method_47_code_74) (v := (o_u2 (o_u4 (o_u16 p0)))) rfl (n := 75) rfl ?_
            refine o_iconst X0 hx (hb hby d_jdk_33_method_47_code_75) (v := (1 : Int32)) rfl (n := 76) rfl ?_
            refine o_iushr X0 hx (hb hby d_jdk_33_method_47_code_76) (v := (o_u1 (o_u2 (o_u4 (o_u16 p0))))) rfl (n := 77) rfl ?_
            refine o_isub X0 hx (hb hby d_jdk_33_method_47_code_77) (v := ((9 : Int32) - (o_u1 (o_u2 (o_u4 (o_u16 p0)))))) rfl (n := 78) rfl ?_
            exact o_ireturn X0 hx hret hlk (hb hby d_jdk_33_method_47_code_78) (by decide) (by decide) e0 ⟨by first | (simp only [o_nz, o_nA, o_nB, o_nC, o_nD, o_nE, hc1, hc22, hc37, hc51, hc63, o_nz1, o_nz0, ↓reduceIte, eq_self]; done) | (simp [o_nz, o_nA, o_nB, o_nC, o_nD, o_nE, hc1, hc22, hc37, hc51, hc63]; done) | (simp [o_nz, o_nA, o_nB, o_nC, o_nD, o_nE, hc1, hc22, hc37, hc51, hc63, o_nz1, o_nz0]; done), rfl, rfl⟩
      · refine o_icmpN X0 hx (hb hby d_jdk_33_method_47_code_37) (XT.ii_lt_f hc37) (n := 40) rfl ?_
        refine o_iinc X0 hx (hb hby d_jdk_33_method_47_code_40) (w := (7 : Int32)) rfl (by decide) (Ls' := #[.val (.int (o_u16 p0)), .val (.int (7 : Int32))]) rfl (n := 43) rfl ?_
        refine o_iloadN X0 hx (hb hby d_jdk_33_method_47_code_43) (v := (o_u16 p0)) rfl (n := 44) rfl ?_
        refine o_bipush X0 hx (hb hby d_jdk_33_method_47_code_44) (v := (8 : Int32)) rfl (n := 46) rfl ?_
        refine o_iushr X0 hx (hb hby d_jdk_33_method_47_code_46) (v := (o_u8 (o_u16 p0))) rfl (n := 47) rfl ?_
        refine o_istoreN X0 hx (hb hby d_jdk_33_method_47_code_47) (Ls' := #[.val (.int (o_u8 (o_u16 p0))), .val (.int (7 : Int32))]) rfl (n := 48) rfl ?_
        refine o_iloadN X0 hx (hb hby d_jdk_33_method_47_code_48) (v := (o_u8 (o_u16 p0))) rfl (n := 49) rfl ?_
        refine o_bipush X0 hx (hb hby d_jdk_33_method_47_code_49) (v := (16 : Int32)) rfl (n := 51) rfl ?_
        by_cases hc51 : (o_u8 (o_u16 p0)) < (16 : Int32)
        · refine o_icmpY X0 hx (hb hby d_jdk_33_method_47_code_51) (XT.ii_lt_t hc51) (by decide) (n := 61) (by decide) ?_
          refine o_iloadN X0 hx (hb hby d_jdk_33_method_47_code_61) (v := (o_u8 (o_u16 p0))) rfl (n := 62) rfl ?_
          refine o_iconst X0 hx (hb hby d_jdk_33_method_47_code_62) (v := (4 : Int32)) rfl (n := 63) rfl ?_
          by_cases hc63 : (o_u8 (o_u16 p0)) < (4 : Int32)
          · refine o_icmpY X0 hx (hb hby d_jdk_33_method_47_code_63) (XT.ii_lt_t hc63) (by decide) (n := 73) (by decide) ?_
            refine o_iloadN X0 hx (hb hby d_jdk_33_method_47_code_73) (v := (7 : Int32)) rfl (n := 74) rfl ?_
            refine o_iloadN X0 hx (hb hby d_jdk_33_method_47_code_74) (v := (o_u8 (o_u16 p0))) rfl (n := 75) rfl ?_
            refine o_iconst X0 hx (hb hby d_jdk_33_method_47_code_75) (v := (1 : Int32)) rfl (n := 76) rfl ?_
            refine o_iushr X0 hx (hb hby d_jdk_33_method_47_code_76) (v := (o_u1 (o_u8 (o_u16 p0)))) rfl (n := 77) rfl ?_
            refine o_isub X0 hx (hb hby d_jdk_33_method_47_code_77) (v := ((7 : Int32) - (o_u1 (o_u8 (o_u16 p0))))) rfl (n := 78) rfl ?_
            exact o_ireturn X0 hx hret hlk (hb hby d_jdk_33_method_47_code_78) (by decide) (by decide) e0 ⟨by first | (simp only [o_nz, o_nA, o_nB, o_nC, o_nD, o_nE, hc1, hc22, hc37, hc51, hc63, o_nz1, o_nz0, ↓reduceIte, eq_self]; done) | (simp [o_nz, o_nA, o_nB, o_nC, o_nD, o_nE, hc1, hc22, hc37, hc51, hc63]; done) | (simp [o_nz, o_nA, o_nB, o_nC, o_nD, o_nE, hc1, hc22, hc37, hc51, hc63, o_nz1, o_nz0]; done), rfl, rfl⟩
          · refine o_icmpN X0 hx (hb hby d_jdk_33_method_47_code_63) (XT.ii_lt_f hc63) (n := 66) rfl ?_
            refine o_iinc X0 hx (hb hby d_jdk_33_method_47_code_66) (w := (5 : Int32)) rfl (by decide) (Ls' := #[.val (.int (o_u8 (o_u16 p0))), .val (.int (5 : Int32))]) rfl (n := 69) rfl ?_
            refine o_iloadN X0 hx (hb hby d_jdk_33_method_47_code_69) (v := (o_u8 (o_u16 p0))) rfl (n := 70) rfl ?_
            refine o_iconst X0 hx (hb hby d_jdk_33_method_47_code_70) (v := (2 : Int32)) rfl (n := 71) rfl ?_
            refine o_iushr X0 hx (hb hby d_jdk_33_method_47_code_71) (v := (o_u2 (o_u8 (o_u16 p0)))) rfl (n := 72) rfl ?_
            refine o_istoreN X0 hx (hb hby d_jdk_33_method_47_code_72) (Ls' := #[.val (.int (o_u2 (o_u8 (o_u16 p0)))), .val (.int (5 : Int32))]) rfl (n := 73) rfl ?_
            refine o_iloadN X0 hx (hb hby d_jdk_33_method_47_code_73) (v := (5 : Int32)) rfl (n := 74) rfl ?_
            refine o_iloadN X0 hx (hb hby d_jdk_33_method_47_code_74) (v := (o_u2 (o_u8 (o_u16 p0)))) rfl (n := 75) rfl ?_
            refine o_iconst X0 hx (hb hby d_jdk_33_method_47_code_75) (v := (1 : Int32)) rfl (n := 76) rfl ?_
            refine o_iushr X0 hx (hb hby d_jdk_33_method_47_code_76) (v := (o_u1 (o_u2 (o_u8 (o_u16 p0))))) rfl (n := 77) rfl ?_
            refine o_isub X0 hx (hb hby d_jdk_33_method_47_code_77) (v := ((5 : Int32) - (o_u1 (o_u2 (o_u8 (o_u16 p0)))))) rfl (n := 78) rfl ?_
            exact o_ireturn X0 hx hret hlk (hb hby d_jdk_33_method_47_code_78) (by decide) (by decide) e0 ⟨by first | (simp only [o_nz, o_nA, o_nB, o_nC, o_nD, o_nE, hc1, hc22, hc37, hc51, hc63, o_nz1, o_nz0, ↓reduceIte, eq_self]; done) | (simp [o_nz, o_nA, o_nB, o_nC, o_nD, o_nE, hc1, hc22, hc37, hc51, hc63]; done) | (simp [o_nz, o_nA, o_nB, o_nC, o_nD, o_nE, hc1, hc22, hc37, hc51, hc63, o_nz1, o_nz0]; done), rfl, rfl⟩
        · refine o_icmpN X0 hx (hb hby d_jdk_33_method_47_code_51) (XT.ii_lt_f hc51) (n := 54) rfl ?_
          refine o_iinc X0 hx (hb hby d_jdk_33_method_47_code_54) (w := (3 : Int32)) rfl (by decide) (Ls' := #[.val (.int (o_u8 (o_u16 p0))), .val (.int (3 : Int32))]) rfl (n := 57) rfl ?_
          refine o_iloadN X0 hx (hb hby d_jdk_33_method_47_code_57) (v := (o_u8 (o_u16 p0))) rfl (n := 58) rfl ?_
          refine o_iconst X0 hx (hb hby d_jdk_33_method_47_code_58) (v := (4 : Int32)) rfl (n := 59) rfl ?_
          refine o_iushr X0 hx (hb hby d_jdk_33_method_47_code_59) (v := (o_u4 (o_u8 (o_u16 p0)))) rfl (n := 60) rfl ?_
          refine o_istoreN X0 hx (hb hby d_jdk_33_method_47_code_60) (Ls' := #[.val (.int (o_u4 (o_u8 (o_u16 p0)))), .val (.int (3 : Int32))]) rfl (n := 61) rfl ?_
          refine o_iloadN X0 hx (hb hby d_jdk_33_method_47_code_61) (v := (o_u4 (o_u8 (o_u16 p0)))) rfl (n := 62) rfl ?_
          refine o_iconst X0 hx (hb hby d_jdk_33_method_47_code_62) (v := (4 : Int32)) rfl (n := 63) rfl ?_
          by_cases hc63 : (o_u4 (o_u8 (o_u16 p0))) < (4 : Int32)
          · refine o_icmpY X0 hx (hb hby d_jdk_33_method_47_code_63) (XT.ii_lt_t hc63) (by decide) (n := 73) (by decide) ?_
            refine o_iloadN X0 hx (hb hby d_jdk_33_method_47_code_73) (v := (3 : Int32)) rfl (n := 74) rfl ?_
            refine o_iloadN X0 hx (hb hby d_jdk_33_method_47_code_74) (v := (o_u4 (o_u8 (o_u16 p0)))) rfl (n := 75) rfl ?_
            refine o_iconst X0 hx (hb hby d_jdk_33_method_47_code_75) (v := (1 : Int32)) rfl (n := 76) rfl ?_
            refine o_iushr X0 hx (hb hby d_jdk_33_method_47_code_76) (v := (o_u1 (o_u4 (o_u8 (o_u16 p0))))) rfl (n := 77) rfl ?_
            refine o_isub X0 hx (hb hby d_jdk_33_method_47_code_77) (v := ((3 : Int32) - (o_u1 (o_u4 (o_u8 (o_u16 p0)))))) rfl (n := 78) rfl ?_
            exact o_ireturn X0 hx hret hlk (hb hby d_jdk_33_method_47_code_78) (by decide) (by decide) e0 ⟨by first | (simp only [o_nz, o_nA, o_nB, o_nC, o_nD, o_nE, hc1, hc22, hc37, hc51, hc63, o_nz1, o_nz0, ↓reduceIte, eq_self]; done) | (simp [o_nz, o_nA, o_nB, o_nC, o_nD, o_nE, hc1, hc22, hc37, hc51, hc63]; done) | (simp [o_nz, o_nA, o_nB, o_nC, o_nD, o_nE, hc1, hc22, hc37, hc51, hc63, o_nz1, o_nz0]; done), rfl, rfl⟩
          · refine o_icmpN X0 hx (hb hby d_jdk_33_method_47_code_63) (XT.ii_lt_f hc63) (n := 66) rfl ?_
            refine o_iinc X0 hx (hb hby d_jdk_33_method_47_code_66) (w := (1 : Int32)) rfl (by decide) (Ls' := #[.val (.int (o_u4 (o_u8 (o_u16 p0)))), .val (.int (1 : Int32))]) rfl (n := 69) rfl ?_
            refine o_iloadN X0 hx (hb hby d_jdk_33_method_47_code_69) (v := (o_u4 (o_u8 (o_u16 p0)))) rfl (n := 70) rfl ?_
            refine o_iconst X0 hx (hb hby d_jdk_33_method_47_code_70) (v := (2 : Int32)) rfl (n := 71) rfl ?_
            refine o_iushr X0 hx (hb hby d_jdk_33_method_47_code_71) (v := (o_u2 (o_u4 (o_u8 (o_u16 p0))))) rfl (n := 72) rfl ?_
            refine o_istoreN X0 hx (hb hby d_jdk_33_method_47_code_72) (Ls' := #[.val (.int (o_u2 (o_u4 (o_u8 (o_u16 p0))))), .val (.int (1 : Int32))]) rfl (n := 73) rfl ?_
            refine o_iloadN X0 hx (hb hby d_jdk_33_method_47_code_73) (v := (1 : Int32)) rfl (n := 74) rfl ?_
            refine o_iloadN X0 hx (hb hby d_jdk_33_method_47_code_74) (v := (o_u2 (o_u4 (o_u8 (o_u16 p0))))) rfl (n := 75) rfl ?_
            refine o_iconst X0 hx (hb hby d_jdk_33_method_47_code_75) (v := (1 : Int32)) rfl (n := 76) rfl ?_
            refine o_iushr X0 hx (hb hby d_jdk_33_method_47_code_76) (v := (o_u1 (o_u2 (o_u4 (o_u8 (o_u16 p0)))))) rfl (n := 77) rfl ?_
            refine o_isub X0 hx (hb hby d_jdk_33_method_47_code_77) (v := ((1 : Int32) - (o_u1 (o_u2 (o_u4 (o_u8 (o_u16 p0))))))) rfl (n := 78) rfl ?_
            exact o_ireturn X0 hx hret hlk (hb hby d_jdk_33_method_47_code_78) (by decide) (by decide) e0 ⟨by first | (simp only [o_nz, o_nA, o_nB, o_nC, o_nD, o_nE, hc1, hc22, hc37, hc51, hc63, o_nz1, o_nz0, ↓reduceIte, eq_self]; done) | (simp [o_nz, o_nA, o_nB, o_nC, o_nD, o_nE, hc1, hc22, hc37, hc51, hc63]; done) | (simp [o_nz, o_nA, o_nB, o_nC, o_nD, o_nE, hc1, hc22, hc37, hc51, hc63, o_nz1, o_nz0]; done), rfl, rfl⟩
  · refine o_ifN X0 hx (hb hby d_jdk_33_method_47_code_1) (XT.i0_gt_f hc1) (n := 4) rfl ?_
    refine o_iloadN X0 hx (hb hby d_jdk_33_method_47_code_4) (v := p0) rfl (n := 5) rfl ?_
    by_cases hc5 : p0 = (0 : Int32)
    · refine o_ifN X0 hx (hb hby d_jdk_33_method_47_code_5) (XT.i0_ne_f hc5) (n := 8) rfl ?_
      refine o_bipush X0 hx (hb hby d_jdk_33_method_47_code_8) (v := (32 : Int32)) rfl (n := 10) rfl ?_
      refine o_goto X0 hx (hb hby d_jdk_33_method_47_code_10) (by decide) (n := 14) (by decide) ?_
      exact o_ireturn X0 hx hret hlk (hb hby d_jdk_33_method_47_code_14) (by decide) (by decide) e0 ⟨by first | (simp only [o_nz, o_nA, o_nB, o_nC, o_nD, o_nE, hc1, hc5, o_nz1, o_nz0, ↓reduceIte, eq_self]; done) | (simp [o_nz, o_nA, o_nB, o_nC, o_nD, o_nE, hc1, hc5]; done) | (simp [o_nz, o_nA, o_nB, o_nC, o_nD, o_nE, hc1, hc5, o_nz1, o_nz0]; done), rfl, rfl⟩
    · refine o_ifY X0 hx (hb hby d_jdk_33_method_47_code_5) (XT.i0_ne_t hc5) (by decide) (n := 13) (by decide) ?_
      refine o_iconst X0 hx (hb hby d_jdk_33_method_47_code_13) (v := (0 : Int32)) rfl (n := 14) rfl ?_
      exact o_ireturn X0 hx hret hlk (hb hby d_jdk_33_method_47_code_14) (by decide) (by decide) e0 ⟨by first | (simp only [o_nz, o_nA, o_nB, o_nC, o_nD, o_nE, hc1, hc5, o_nz1, o_nz0, ↓reduceIte, eq_self]; done) | (simp [o_nz, o_nA, o_nB, o_nC, o_nD, o_nE, hc1, hc5]; done) | (simp [o_nz, o_nA, o_nB, o_nC, o_nD, o_nE, hc1, hc5, o_nz1, o_nz0]; done), rfl, rfl⟩
theorem d_jdk_35_method_48_code_0 : decode jdk_35_method_48_code 0 = .ok (.lload_n 0, 1) := by decide +kernel
theorem d_jdk_35_method_48_code_1 : decode jdk_35_method_48_code 1 = .ok (.bipush 32, 2) := by decide +kernel
theorem d_jdk_35_method_48_code_3 : decode jdk_35_method_48_code 3 = .ok (.lushr, 1) := by decide +kernel
theorem d_jdk_35_method_48_code_4 : decode jdk_35_method_48_code 4 = .ok (.l2i, 1) := by decide +kernel
theorem d_jdk_35_method_48_code_5 : decode jdk_35_method_48_code 5 = .ok (.istore_n 2, 1) := by decide +kernel
theorem d_jdk_35_method_48_code_6 : decode jdk_35_method_48_code 6 = .ok (.iload_n 2, 1) := by decide +kernel
theorem d_jdk_35_method_48_code_7 : decode jdk_35_method_48_code 7 = .ok (.ifCond .ne 14, 3) := by decide +kernel
theorem d_jdk_35_method_48_code_10 : decode jdk_35_method_48_code 10 = .ok (.bipush 32, 2) := by decide +kernel
theorem d_jdk_35_method_48_code_12 : decode jdk_35_method_48_code 12 = .ok (.lload_n 0, 1) := by decide +kernel
theorem d_jdk_35_method_48_code_13 : decode jdk_35_method_48_code 13 = .ok (.l2i, 1) := by decide +kernel
theorem d_jdk_35_method_48_code_14 : decode jdk_35_method_48_code 14 = .ok (.invokestatic 308, 3) := by decide +kernel
theorem o_pd1 : parseMethodDescriptor "(I)I" = some ⟨[.int], some .int⟩ := by decide +kernel
theorem d_jdk_35_method_48_code_17 : decode jdk_35_method_48_code 17 = .ok (.iadd, 1) := by decide +kernel
theorem d_jdk_35_method_48_code_18 : decode jdk_35_method_48_code 18 = .ok (.goto 7, 3) := by decide +kernel
theorem d_jdk_35_method_48_code_25 : decode jdk_35_method_48_code 25 = .ok (.ireturn, 1) := by decide +kernel
theorem d_jdk_35_method_48_code_21 : decode jdk_35_method_48_code 21 = .ok (.iload_n 2, 1) := by decide +kernel
theorem d_jdk_35_method_48_code_22 : decode jdk_35_method_48_code 22 = .ok (.invokestatic 308, 3) := by decide +kernel
theorem o_ef7 (m : MethodId) (p0 : Int64) : entryFrame m #[(.long p0)] 3 = mkF m 0 #[.val (.long p0), .second, .unset] [] := by first | (simp [entryFrame, mkF, argsToLocals, Value.category]; done) | rfl
set_option maxRecDepth 65536 in
set_option maxHeartbeats 40000000 in
theorem c_nlz (l : Launch) (Z : State) (a0 : Array Value) (hw : ∀ d ∈ tables_1, d.before a0 Z = true) (p0 : Int64) (h0 : Heap) :
    Does l Z (⟨"java/lang/Long", "numberOfLeadingZeros", "(J)I"⟩ : MethodName) jdk_35_method_48_code 3 (some .int) [] ({ frames := 1, cells := 0, slots := 0, locals := 14 } : Room) #[(.long p0)] h0 (Pur h0 (.int (o_nlz p0))) := by
  refine Does.of (plainFor_of_name o_pn0) ?_
  intro p e s m below meth c T0 hx hby hml hown hnm hret hlk hZ X0 e0
  have hown : s.vm.findClass "java/lang/Long" = some m.cls := hown
  have hml : c.maxLocals = 3 := hml
  have hret : meth.sig.returnType = some .int := hret
  refine o_entry (o_ef7 m p0) ?_
  refine o_lloadN X0 hx (hb hby d_jdk_35_method_48_code_0) (v := p0) rfl (n := 1) rfl ?_
  refine o_bipush X0 hx (hb hby d_jdk_35_method_48_code_1) (v := (32 : Int32)) rfl (n := 3) rfl ?_
  refine o_lushr X0 hx (hb hby d_jdk_35_method_48_code_3) (v := (p0.toUInt64 >>> (32 : UInt64)).toInt64) (congrArg (fun q : UInt64 => (p0.toUInt64 >>> q).toInt64) (show ((32 : Int32) &&& 0x3f).toInt64.toUInt64 = 32 by decide)) (n := 4) rfl ?_
  refine o_l2i X0 hx (hb hby d_jdk_35_method_48_code_4) (v := ((p0.toUInt64 >>> (32 : UInt64)).toInt64).toInt32) rfl (n := 5) rfl ?_
  refine o_istoreN X0 hx (hb hby d_jdk_35_method_48_code_5) (Ls' := #[.val (.long p0), .second, .val (.int (((p0.toUInt64 >>> (32 : UInt64)).toInt64).toInt32))]) rfl (n := 6) rfl ?_
  refine o_iloadN X0 hx (hb hby d_jdk_35_method_48_code_6) (v := ((p0.toUInt64 >>> (32 : UInt64)).toInt64).toInt32) rfl (n := 7) rfl ?_
  by_cases hc7 : ((p0.toUInt64 >>> (32 : UInt64)).toInt64).toInt32 = (0 : Int32)
  · refine o_ifN X0 hx (hb hby d_jdk_35_method_48_code_7) (XT.i0_ne_f hc7) (n := 10) rfl ?_
    refine o_bipush X0 hx (hb hby d_jdk_35_method_48_code_10) (v := (32 : Int32)) rfl (n := 12) rfl ?_
    refine o_lloadN X0 hx (hb hby d_jdk_35_method_48_code_12) (v := p0) rfl (n := 13) rfl ?_
    refine o_l2i X0 hx (hb hby d_jdk_35_method_48_code_13) (v := p0.toInt32) rfl (n := 14) rfl ?_
    refine o_callS X0 hx hZ hown (hw _ (List.mem_of_getElem? (i := 72) rfl)) (hw _ (List.mem_of_getElem? (i := 73) rfl)) (hw _ (List.mem_of_getElem? (i := 74) rfl)) (hw _ (List.mem_of_getElem? (i := 75) rfl)) (by decide) e0 (argsL := [(.int p0.toInt32)]) (rest := [(.int (32 : Int32))]) (c_nz l Z a0 hw p0.toInt32 h0) 1 (by decide) (by decide) (by decide) (by decide) (by rw [hml]; rfl) (lenOf o_pd1 rfl) rfl (Nat.le_of_eq rfl) (hb hby d_jdk_35_method_48_code_14) (n := 17) rfl ?_
    intro v1 T1 L1 X1 q1
    obtain ⟨rfl, e1, rfl⟩ := q1
    show Goes p e below s _ _ _ (T1.setTop (mkF m 17 #[.val (.long p0), .second, .val (.int (((p0.toUInt64 >>> (32 : UInt64)).toInt64).toInt32))] [(.int (o_nz p0.toInt32)), (.int (32 : Int32))]))
    refine o_iadd X1 hx (hb hby d_jdk_35_method_48_code_17) (v := ((32 : Int32) + (o_nz p0.toInt32))) rfl (n := 18) rfl ?_
    refine o_goto X1 hx (hb hby d_jdk_35_method_48_code_18) (by decide) (n := 25) (by decide) ?_
    exact o_ireturn X1 hx hret hlk (hb hby d_jdk_35_method_48_code_25) (by decide) (by decide) e1 ⟨by first | (simp only [o_nlz, hc7, o_nz1, o_nz0, ↓reduceIte, eq_self]; done) | (simp [o_nlz, hc7]; done) | (simp [o_nlz, hc7, o_nz1, o_nz0]; done), rfl, rfl⟩
  · refine o_ifY X0 hx (hb hby d_jdk_35_method_48_code_7) (XT.i0_ne_t hc7) (by decide) (n := 21) (by decide) ?_
    refine o_iloadN X0 hx (hb hby d_jdk_35_method_48_code_21) (v := ((p0.toUInt64 >>> (32 : UInt64)).toInt64).toInt32) rfl (n := 22) rfl ?_
    refine o_callS X0 hx hZ hown (hw _ (List.mem_of_getElem? (i := 72) rfl)) (hw _ (List.mem_of_getElem? (i := 73) rfl)) (hw _ (List.mem_of_getElem? (i := 74) rfl)) (hw _ (List.mem_of_getElem? (i := 75) rfl)) (by decide) e0 (argsL := [(.int (((p0.toUInt64 >>> (32 : UInt64)).toInt64).toInt32))]) (rest := []) (c_nz l Z a0 hw (((p0.toUInt64 >>> (32 : UInt64)).toInt64).toInt32) h0) 0 (by decide) (by decide) (by decide) (by decide) (by rw [hml]; rfl) (lenOf o_pd1 rfl) rfl (Nat.le_of_eq rfl) (hb hby d_jdk_35_method_48_code_22) (n := 25) rfl ?_
    intro v2 T2 L2 X2 q2
    obtain ⟨rfl, e2, rfl⟩ := q2
    show Goes p e below s _ _ _ (T2.setTop (mkF m 25 #[.val (.long p0), .second, .val (.int (((p0.toUInt64 >>> (32 : UInt64)).toInt64).toInt32))] [(.int (o_nz (((p0.toUInt64 >>> (32 : UInt64)).toInt64).toInt32)))]))
    exact o_ireturn X2 hx hret hlk (hb hby d_jdk_35_method_48_code_25) (by decide) (by decide) e2 ⟨by first | (simp only [o_nlz, hc7, o_nz1, o_nz0, ↓reduceIte, eq_self]; done) | (simp [o_nlz, hc7]; done) | (simp [o_nlz, hc7, o_nz1, o_nz0]; done), rfl, rfl⟩
theorem d_jdk_65_method_103_code_0 : decode jdk_65_method_103_code 0 = .ok (.iconst 0, 1) := by decide +kernel
theorem d_jdk_65_method_103_code_1 : decode jdk_65_method_103_code 1 = .ok (.istore_n 2, 1) := by decide +kernel
theorem d_jdk_65_method_103_code_2 : decode jdk_65_method_103_code 2 = .ok (.aload_n 0, 1) := by decide +kernel
theorem d_jdk_65_method_103_code_3 : decode jdk_65_method_103_code 3 = .ok (.arraylength, 1) := by decide +kernel
theorem d_jdk_65_method_103_code_4 : decode jdk_65_method_103_code 4 = .ok (.istore_n 3, 1) := by decide +kernel
theorem d_jdk_65_method_103_code_5 : decode jdk_65_method_103_code 5 = .ok (.iload_n 2, 1) := by decide +kernel
theorem d_jdk_65_method_103_code_6 : decode jdk_65_method_103_code 6 = .ok (.iload_n 3, 1) := by decide +kernel
theorem d_jdk_65_method_103_code_7 : decode jdk_65_method_103_code 7 = .ok (.if_icmp .ge 13, 3) := by decide +kernel
theorem d_jdk_65_method_103_code_10 : decode jdk_65_method_103_code 10 = .ok (.aload_n 0, 1) := by decide +kernel
theorem d_jdk_65_method_103_code_11 : decode jdk_65_method_103_code 11 = .ok (.iload_n 2, 1) := by decide +kernel
theorem d_jdk_65_method_103_code_12 : decode jdk_65_method_103_code 12 = .ok (.iload_n 1, 1) := by decide +kernel
theorem d_jdk_65_method_103_code_13 : decode jdk_65_method_103_code 13 = .ok (.iastore, 1) := by decide +kernel
theorem d_jdk_65_method_103_code_14 : decode jdk_65_method_103_code 14 = .ok (.iinc 2 1, 3) := by decide +kernel
theorem d_jdk_65_method_103_code_17 : decode jdk_65_method_103_code 17 = .ok (.goto (-12), 3) := by decide +kernel
theorem d_jdk_65_method_103_code_20 : decode jdk_65_method_103_code 20 = .ok (.return_, 1) := by decide +kernel
theorem o_ef8 (m : MethodId) (a2 : Addr) : entryFrame m #[(.ref a2), (.int (1 : Int32))] 4 = mkF m 0 #[.val (.ref a2), .val (.int (1 : Int32)), .unset, .unset] [] := by first | (simp [entryFrame, mkF, argsToLocals, Value.category]; done) | rfl
theorem o_pn2 : plainName "java/util/Arrays" = true := by first | (simp [plainName, overriddenIn]; done) | decide +kernel
set_option maxRecDepth 65536 in
set_option maxHeartbeats 40000000 in
theorem c_fill (l : Launch) (Z : State) (a0 : Array Value) (hw : ∀ d ∈ tables_1, d.before a0 Z = true) (a2 : Addr) (k2 : ClassId) (h0 : Heap) (n0 : Nat) (Z0 : n0 ≤ h0.size) (pg_a2 : n0 ≤ a2) (pV_a2 : Arv Z h0 a2 k2 .int (2 : Int32) [(.int (0 : Int32)), (.int (0 : Int32))] (.int (0 : Int32))) :
    Does l Z (⟨"java/util/Arrays", "fill", "([II)V"⟩ : MethodName) jdk_65_method_103_code 4 none [] ({ frames := 0, cells := 0, slots := 0, locals := 0 } : Room) #[(.ref a2), (.int (1 : Int32))] h0 (fun v h L => v = none ∧ Fr n0 L ∧ Keep h0 h [a2] ∧ Arv Z h a2 k2 .int (2 : Int32) [(.int (1 : Int32)), (.int (1 : Int32))] (.int (0 : Int32))) := by
  refine Does.of (plainFor_of_name o_pn2) ?_
  intro p e s m below meth c T0 hx hby hml hown hnm hret hlk hZ X0 e0
  have hown : s.vm.findClass "java/util/Arrays" = some m.cls := hown
  have hml : c.maxLocals = 4 := hml
  have hret : meth.sig.returnType = none := hret
  refine o_entry (o_ef8 m a2) ?_
  have N0 := Fr.nil n0
  refine o_iconst X0 hx (hb hby d_jdk_65_method_103_code_0) (v := (0 : Int32)) rfl (n := 1) rfl ?_
  refine o_istoreN X0 hx (hb hby d_jdk_65_method_103_code_1) (Ls' := #[.val (.ref a2), .val (.int (1 : Int32)), .val (.int (0 : Int32)), .unset]) rfl (n := 2) rfl ?_
  refine o_aloadN X0 hx (hb hby d_jdk_65_method_103_code_2) (v := (.ref a2)) rfl rfl (n := 3) rfl ?_
  refine o_arraylength X0 hx hZ e0 pV_a2 (hb hby d_jdk_65_method_103_code_3) (n := 4) rfl ?_
  refine o_istoreN X0 hx (hb hby d_jdk_65_method_103_code_4) (Ls' := #[.val (.ref a2), .val (.int (1 : Int32)), .val (.int (0 : Int32)), .val (.int (2 : Int32))]) rfl (n := 5) rfl ?_
  refine o_iloadN X0 hx (hb hby d_jdk_65_method_103_code_5) (v := (0 : Int32)) rfl (n := 6) rfl ?_
  refine o_iloadN X0 hx (hb hby d_jdk_65_method_103_code_6) (v := (2 : Int32)) rfl (n := 7) rfl ?_
  refine o_icmpN X0 hx (hb hby d_jdk_65_method_103_code_7) (XT.ii_ge_f (by decide)) (n := 10) rfl ?_
  refine o_aloadN X0 hx (hb hby d_jdk_65_method_103_code_10) (v := (.ref a2)) rfl rfl (n := 11) rfl ?_
  refine o_iloadN X0 hx (hb hby d_jdk_65_method_103_code_11) (v := (0 : Int32)) rfl (n := 12) rfl ?_
  refine o_iloadN X0 hx (hb hby d_jdk_65_method_103_code_12) (v := (1 : Int32)) rfl (n := 13) rfl ?_
  refine o_iastore X0 hx hZ e0 pV_a2 (0) (by decide) (by decide) (Nat.le_of_ble_eq_true rfl) (w := (.int (1 : Int32))) rfl (vs' := [(.int (1 : Int32)), (.int (0 : Int32))]) rfl (hb hby d_jdk_65_method_103_code_13) (n := 14) rfl ?_
  intro T1 h1 X1 e1 W1 V1
  have zz1 : n0 ≤ h1.size := Nat.le_trans Z0 (Nat.le_of_eq W1.size.symm)
  have N2 := Fr.snoc X1 N0 pg_a2
  have K3 : Keep h0 h1 [a2] := (Keep.refl h0 [a2]).wr W1 (Or.inl (List.mem_of_getElem? (i := 0) rfl))
  refine o_iinc X1 hx (hb hby d_jdk_65_method_103_code_14) (w := (1 : Int32)) rfl (by decide) (Ls' := #[.val (.ref a2), .val (.int (1 : Int32)), .val (.int (1 : Int32)), .val (.int (2 : Int32))]) rfl (n := 17) rfl ?_
  refine o_goto X1 hx (hb hby d_jdk_65_method_103_code_17) (by decide) (n := 5) (by decide) ?_
  refine o_iloadN X1 hx (hb hby d_jdk_65_method_103_code_5) (v := (1 : Int32)) rfl (n := 6) rfl ?_
  refine o_iloadN X1 hx (hb hby d_jdk_65_method_103_code_6) (v := (2 : Int32)) rfl (n := 7) rfl ?_
  refine o_icmpN X1 hx (hb hby d_jdk_65_method_103_code_7) (XT.ii_ge_f (by decide)) (n := 10) rfl ?_
  refine o_aloadN X1 hx (hb hby d_jdk_65_method_103_code_10) (v := (.ref a2)) rfl rfl (n := 11) rfl ?_
  refine o_iloadN X1 hx (hb hby d_jdk_65_method_103_code_11) (v := (1 : Int32)) rfl (n := 12) rfl ?_
  refine o_iloadN X1 hx (hb hby d_jdk_65_method_103_code_12) (v := (1 : Int32)) rfl (n := 13) rfl ?_
  refine o_iastore X1 hx hZ e1 V1 (1) (by decide) (by decide) (Nat.le_of_ble_eq_true rfl) (w := (.int (1 : Int32))) rfl (vs' := [(.int (1 : Int32)), (.int (1 : Int32))]) rfl (hb hby d_jdk_65_method_103_code_13) (n := 14) rfl ?_
  intro T4 h4 X4 e4 W4 V4
  have zz4 : n0 ≤ h4.size := Nat.le_trans zz1 (Nat.le_of_eq W4.size.symm)
  have N5 := Fr.snoc X4 N2 pg_a2
  have K6 : Keep h0 h4 [a2] := K3.wr W4 (Or.inl (List.mem_of_getElem? (i := 0) rfl))
  refine o_iinc X4 hx (hb hby d_jdk_65_method_103_code_14) (w := (2 : Int32)) rfl (by decide) (Ls' := #[.val (.ref a2), .val (.int (1 : Int32)), .val (.int (2 : Int32)), .val (.int (2 : Int32))]) rfl (n := 17) rfl ?_
  refine o_goto X4 hx (hb hby d_jdk_65_method_103_code_17) (by decide) (n := 5) (by decide) ?_
  refine o_iloadN X4 hx (hb hby d_jdk_65_method_103_code_5) (v := (2 : Int32)) rfl (n := 6) rfl ?_
  refine o_iloadN X4 hx (hb hby d_jdk_65_method_103_code_6) (v := (2 : Int32)) rfl (n := 7) rfl ?_
  refine o_icmpY X4 hx (hb hby d_jdk_65_method_103_code_7) (XT.ii_ge_t (by decide)) (by decide) (n := 20) (by decide) ?_
  exact o_return X4 hx hret hlk (hb hby d_jdk_65_method_103_code_20) (by decide) (by decide) e4 ⟨rfl, N5, K6, V4⟩
theorem d_prog_12_method_3_code_0 : decode prog_12_method_3_code 0 = .ok (.iload_n 0, 1) := by decide +kernel
theorem d_prog_12_method_3_code_1 : decode prog_12_method_3_code 1 = .ok (.newarray .int, 2) := by decide +kernel
theorem d_prog_12_method_3_code_3 : decode prog_12_method_3_code 3 = .ok (.astore_n 1, 1) := by decide +kernel
theorem d_prog_12_method_3_code_4 : decode prog_12_method_3_code 4 = .ok (.aload_n 1, 1) := by decide +kernel
theorem d_prog_12_method_3_code_5 : decode prog_12_method_3_code 5 = .ok (.iconst 1, 1) := by decide +kernel
theorem d_prog_12_method_3_code_6 : decode prog_12_method_3_code 6 = .ok (.invokestatic 58, 3) := by decide +kernel
theorem o_pd2 : parseMethodDescriptor "([II)V" = some ⟨[(.array .int), .int], none⟩ := by decide +kernel
theorem d_prog_12_method_3_code_9 : decode prog_12_method_3_code 9 = .ok (.aload_n 1, 1) := by decide +kernel
theorem d_prog_12_method_3_code_10 : decode prog_12_method_3_code 10 = .ok (.areturn, 1) := by decide +kernel
theorem o_ef9 (m : MethodId)  : entryFrame m #[(.int (2 : Int32))] 2 = mkF m 0 #[.val (.int (2 : Int32)), .unset] [] := by first | (simp [entryFrame, mkF, argsToLocals, Value.category]; done) | rfl
theorem o_pn3 : plainName "com/example/marke/marke/analysis/MarkingLayout" = true := by first | (simp [plainName, overriddenIn]; done) | decide +kernel
set_option maxRecDepth 65536 in
set_option maxHeartbeats 40000000 in
theorem c_one (l : Launch) (Z : State) (a0 : Array Value) (hw : ∀ d ∈ tables_1, d.before a0 Z = true)  (h0 : Heap) (n0 : Nat) (Z0 : n0 ≤ h0.size) :
    Does l Z (⟨"com/example/marke/marke/analysis/MarkingLayout", "oneBitEach", "(I)[I"⟩ : MethodName) prog_12_method_3_code 2 (some (.array .int)) [] ({ frames := 1, cells := 1, slots := 2, locals := 15 } : Room) #[(.int (2 : Int32))] h0 (fun v h L => ∃ (n1 : Addr) (k1 : ClassId), v = some (.ref n1) ∧ Fr n0 L ∧ Keep h0 h [] ∧ h0.size ≤ n1 ∧ Arv Z h n1 k1 .int (2 : Int32) [(.int (1 : Int32)), (.int (1 : Int32))] (.int (0 : Int32))) := by
  refine Does.of (plainFor_of_name o_pn3) ?_
  intro p e s m below meth c T0 hx hby hml hown hnm hret hlk hZ X0 e0
  have hown : s.vm.findClass "com/example/marke/marke/analysis/MarkingLayout" = some m.cls := hown
  have hml : c.maxLocals = 2 := hml
  have hret : meth.sig.returnType = some (.array .int) := hret
  refine o_entry (o_ef9 m ) ?_
  have N0 := Fr.nil n0
  refine o_iloadN X0 hx (hb hby d_prog_12_method_3_code_0) (v := (2 : Int32)) rfl (n := 1) rfl ?_
  refine o_newarray X0 hx hZ (aty := .int) (hw _ (List.mem_of_getElem? (i := 9) rfl)) e0 (hb hby d_prog_12_method_3_code_1) (by decide) 2 (by decide) (by decide) (by decide) (by decide) (n := 3) rfl ?_
  intro T1 h1 b1 k1 X1 e1 g1 E1 V1
  have gg1 : n0 ≤ b1 := Nat.le_trans Z0 (Nat.le_of_eq g1.symm)
  have zz1 : n0 ≤ h1.size := Nat.le_trans Z0 E1.1
  have sz1 : h0.size ≤ b1 := Nat.le_trans (Keep.refl h0 []).1 (Nat.le_of_eq g1.symm)
  have K2 : Keep h0 h1 [] := (Keep.refl h0 []).ext E1
  have f3 : Arv Z h1 b1 k1 .int (2 : Int32) [(.int (0 : Int32)), (.int (0 : Int32))] (.int (0 : Int32)) := V1.pad (pad_rep [] (.int (0 : Int32)) 2)
  refine o_astoreN X1 hx (hb hby d_prog_12_method_3_code_3) rfl (Ls' := #[.val (.int (2 : Int32)), .val (.ref b1)]) rfl (n := 4) rfl ?_
  refine o_aloadN X1 hx (hb hby d_prog_12_method_3_code_4) (v := (.ref b1)) rfl rfl (n := 5) rfl ?_
  refine o_iconst X1 hx (hb hby d_prog_12_method_3_code_5) (v := (1 : Int32)) rfl (n := 6) rfl ?_
  refine o_callS X1 hx hZ hown (hw _ (List.mem_of_getElem? (i := 10) rfl)) (hw _ (List.mem_of_getElem? (i := 11) rfl)) (hw _ (List.mem_of_getElem? (i := 12) rfl)) (hw _ (List.mem_of_getElem? (i := 13) rfl)) (by decide) e1 (argsL := [(.ref b1), (.int (1 : Int32))]) (rest := []) (c_fill l Z a0 hw b1 k1 h1 n0 zz1 gg1 f3) 0 (by decide) (by decide) (by decide) (by decide) (by rw [hml]; rfl) (lenOf o_pd2 rfl) rfl (Nat.le_of_eq rfl) (hb hby d_prog_12_method_3_code_6) (n := 9) rfl ?_
  intro v4 T4 L4 X4 q4
  obtain ⟨rfl, Nq4, K4, o4_0⟩ := q4
  have N5 := Fr.app N0 Nq4
  have zz4 : n0 ≤ T4.heap.size := Nat.le_trans zz1 K4.1
  have K7 : Keep h0 T4.heap [] := K2.trans K4 (allS (P := fun x => x ∈ [] ∨ h0.size ≤ x) (Or.inr sz1) all0)
  show Goes p e below s _ _ _ (T4.setTop (mkF m 9 #[.val (.int (2 : Int32)), .val (.ref b1)] []))
  refine o_aloadN X4 hx (hb hby d_prog_12_method_3_code_9) (v := (.ref b1)) rfl rfl (n := 10) rfl ?_
  exact o_areturn X4 hx hret hlk rfl rfl (hb hby d_prog_12_method_3_code_10) (by decide) (by decide) (rfl : T4.heap = T4.heap) ⟨b1, k1, rfl, N5, K7, sz1, o4_0⟩
theorem d_jdk_65_method_123_code_0 : decode jdk_65_method_123_code 0 = .ok (.iload_n 1, 1) := by decide +kernel
theorem d_jdk_65_method_123_code_1 : decode jdk_65_method_123_code 1 = .ok (.aload_n 0, 1) := by decide +kernel
theorem d_jdk_65_method_123_code_2 : decode jdk_65_method_123_code 2 = .ok (.arraylength, 1) := by decide +kernel
theorem d_jdk_65_method_123_code_3 : decode jdk_65_method_123_code 3 = .ok (.if_icmp .ne 11, 3) := by decide +kernel
theorem d_jdk_65_method_123_code_14 : decode jdk_65_method_123_code 14 = .ok (.iload_n 1, 1) := by decide +kernel
theorem d_jdk_65_method_123_code_15 : decode jdk_65_method_123_code 15 = .ok (.newarray .int, 2) := by decide +kernel
theorem d_jdk_65_method_123_code_17 : decode jdk_65_method_123_code 17 = .ok (.astore_n 2, 1) := by decide +kernel
theorem d_jdk_65_method_123_code_18 : decode jdk_65_method_123_code 18 = .ok (.aload_n 0, 1) := by decide +kernel
theorem d_jdk_65_method_123_code_19 : decode jdk_65_method_123_code 19 = .ok (.iconst 0, 1) := by decide +kernel
theorem d_jdk_65_method_123_code_20 : decode jdk_65_method_123_code 20 = .ok (.aload_n 2, 1) := by decide +kernel
theorem d_jdk_65_method_123_code_21 : decode jdk_65_method_123_code 21 = .ok (.iconst 0, 1) := by decide +kernel
theorem d_jdk_65_method_123_code_22 : decode jdk_65_method_123_code 22 = .ok (.aload_n 0, 1) := by decide +kernel
theorem d_jdk_65_method_123_code_23 : decode jdk_65_method_123_code 23 = .ok (.arraylength, 1) := by decide +kernel
theorem d_jdk_65_method_123_code_24 : decode jdk_65_method_123_code 24 = .ok (.iload_n 1, 1) := by decide +kernel
theorem d_jdk_65_method_123_code_25 : decode jdk_65_method_123_code 25 = .ok (.invokestatic 304, 3) := by decide +kernel
theorem o_pd3 : parseMethodDescriptor "(II)I" = some ⟨[.int, .int], some .int⟩ := by decide +kernel
theorem d_jdk_65_method_123_code_28 : decode jdk_65_method_123_code 28 = .ok (.invokestatic 150, 3) := by decide +kernel
theorem d_jdk_65_method_123_code_31 : decode jdk_65_method_123_code 31 = .ok (.aload_n 2, 1) := by decide +kernel
theorem d_jdk_65_method_123_code_32 : decode jdk_65_method_123_code 32 = .ok (.areturn, 1) := by decide +kernel
theorem o_ef10 (m : MethodId) (q : Addr) (u : Nat) : entryFrame m #[(.ref q), (.int (n32 u))] 3 = mkF m 0 #[.val (.ref q), .val (.int (n32 u)), .unset] [] := by first | (simp [entryFrame, mkF, argsToLocals, Value.category]; done) | rfl
set_option maxRecDepth 65536 in
set_option maxHeartbeats 40000000 in
theorem c_cpI (l : Launch) (Z : State) (a0 : Array Value) (hw : ∀ d ∈ tables_1, d.before a0 Z = true) (q : Addr) (k1 : ClassId) (vs : List Value) (n : Nat) (u : Nat) (h0 : Heap) (n0 : Nat) (Z0 : n0 ≤ h0.size) (pV_q : Arv Z h0 q k1 .int (n32 n) vs (.int (0 : Int32))) (hu : n < u) (hu8 : u ≤ 8) (hv : vs.length ≤ n) :
    Does l Z (⟨"java/util/Arrays", "copyOf", "([II)[I"⟩ : MethodName) jdk_65_method_123_code 3 (some (.array .int)) [] ({ frames := 1, cells := 1, slots := 8, locals := 18 } : Room) #[(.ref q), (.int (n32 u))] h0 (fun v h L => ∃ (n1 : Addr) (kn : ClassId), v = some (.ref n1) ∧ Fr n0 L ∧ Keep h0 h [] ∧ h0.size ≤ n1 ∧ Arv Z h n1 kn .int (n32 u) vs (.int (0 : Int32))) := by
  refine Does.of (plainFor_of_name o_pn2) ?_
  intro p e s m below meth c T0 hx hby hml hown hnm hret hlk hZ X0 e0
  have hown : s.vm.findClass "java/util/Arrays" = some m.cls := hown
  have hml : c.maxLocals = 3 := hml
  have hret : meth.sig.returnType = some (.array .int) := hret
  refine o_entry (o_ef10 m q u) ?_
  have N0 := Fr.nil n0
  refine o_iloadN X0 hx (hb hby d_jdk_65_method_123_code_0) (v := (n32 u)) rfl (n := 1) rfl ?_
  refine o_aloadN X0 hx (hb hby d_jdk_65_method_123_code_1) (v := (.ref q)) rfl rfl (n := 2) rfl ?_
  refine o_arraylength X0 hx hZ e0 pV_q (hb hby d_jdk_65_method_123_code_2) (n := 3) rfl ?_
  refine o_icmpY X0 hx (hb hby d_jdk_65_method_123_code_3) (XT.ii_ne_t (fun z => absurd ((o_neq (by omega) (by omega)).mp z) (by omega))) (by decide) (n := 14) (by decide) ?_
  refine o_iloadN X0 hx (hb hby d_jdk_65_method_123_code_14) (v := (n32 u)) rfl (n := 15) rfl ?_
  refine o_newarray X0 hx hZ (aty := .int) (hw _ (List.mem_of_getElem? (i := 9) rfl)) e0 (hb hby d_jdk_65_method_123_code_15) (o_n0 (by omega)) 8 (by rw [o_nt (by omega)]; omega) (by decide) (by decide) (by decide) (n := 17) rfl ?_
  intro T1 h1 b1 k1 X1 e1 g1 E1 V1
  have ne2 : q ≠ b1 := Nat.ne_of_lt (Nat.lt_of_lt_of_eq pV_q.lt g1.symm)
  have gg1 : n0 ≤ b1 := Nat.le_trans Z0 (Nat.le_of_eq g1.symm)
  have zz1 : n0 ≤ h1.size := Nat.le_trans Z0 E1.1
  have sz1 : h0.size ≤ b1 := Nat.le_trans (Keep.refl h0 []).1 (Nat.le_of_eq g1.symm)
  have f3 := pV_q.ext E1
  have K4 : Keep h0 h1 [] := (Keep.refl h0 []).ext E1
  refine o_astoreN X1 hx (hb hby d_jdk_65_method_123_code_17) rfl (Ls' := #[.val (.ref q), .val (.int (n32 u)), .val (.ref b1)]) rfl (n := 18) rfl ?_
  refine o_aloadN X1 hx (hb hby d_jdk_65_method_123_code_18) (v := (.ref q)) rfl rfl (n := 19) rfl ?_
  refine o_iconst X1 hx (hb hby d_jdk_65_method_123_code_19) (v := (0 : Int32)) rfl (n := 20) rfl ?_
  refine o_aloadN X1 hx (hb hby d_jdk_65_method_123_code_20) (v := (.ref b1)) rfl rfl (n := 21) rfl ?_
  refine o_iconst X1 hx (hb hby d_jdk_65_method_123_code_21) (v := (0 : Int32)) rfl (n := 22) rfl ?_
  refine o_aloadN X1 hx (hb hby d_jdk_65_method_123_code_22) (v := (.ref q)) rfl rfl (n := 23) rfl ?_
  refine o_arraylength X1 hx hZ e1 f3 (hb hby d_jdk_65_method_123_code_23) (n := 24) rfl ?_
  refine o_iloadN X1 hx (hb hby d_jdk_65_method_123_code_24) (v := (n32 u)) rfl (n := 25) rfl ?_
  refine o_callS X1 hx hZ hown (hw _ (List.mem_of_getElem? (i := 82) rfl)) (hw _ (List.mem_of_getElem? (i := 77) rfl)) (hw _ (List.mem_of_getElem? (i := 42) rfl)) (hw _ (List.mem_of_getElem? (i := 78) rfl)) (by decide) e1 (argsL := [(.int (n32 n)), (.int (n32 u))]) (rest := [(.int (0 : Int32)), (.ref b1), (.int (0 : Int32)), (.ref q)]) ((o_mnl hu (by omega)) ▸ c_min l Z a0 hw (n32 n) (n32 u) h1) 4 (by decide) (by decide) (by decide) (by decide) (by rw [hml]; rfl) (lenOf o_pd3 rfl) rfl (Nat.le_of_eq rfl) (hb hby d_jdk_65_method_123_code_25) (n := 28) rfl ?_
  intro v5 T5 L5 X5 q5
  obtain ⟨rfl, e5, rfl⟩ := q5
  have N6 := Fr.app N0 (Fr.nil n0)
  show Goes p e below s _ _ _ (T5.setTop (mkF m 28 #[.val (.ref q), .val (.int (n32 u)), .val (.ref b1)] [(.int (n32 n)), (.int (0 : Int32)), (.ref b1), (.int (0 : Int32)), (.ref q)]))
  have f8 := V1.pad (pad_rep [] (.int (0 : Int32)) n)
  refine o_acopy X5 hx hZ hown (hw _ (List.mem_of_getElem? (i := 83) rfl)) (hw _ (List.mem_of_getElem? (i := 86) rfl)) (hw _ (List.mem_of_getElem? (i := 84) rfl)) (hw _ (List.mem_of_getElem? (i := 85) rfl)) e5 f3 f8 (Or.inl ⟨rfl, rfl⟩) (o_ach hu hu8 vs (.int (0 : Int32))) N6 gg1 (by rw [hml]; rfl) (hb hby d_jdk_65_method_123_code_28) (by decide) 0 (Nat.le_of_eq rfl) (by decide) (n := 31) rfl ?_
  intro T7 h7 L7 X7 e7 N7 K7 V7
  have f9 := f3.keep K7 (ninS ne2 nin0)
  have f10 : Arv Z h7 b1 k1 .int (n32 u) vs (.int (0 : Int32)) := V7.pad (o_acl (by omega) vs (.int (0 : Int32)) hv)
  have zz7 : n0 ≤ h7.size := Nat.le_trans zz1 K7.1
  have K11 : Keep h0 h7 [] := K4.trans K7 (allS (P := fun x => x ∈ [] ∨ h0.size ≤ x) (Or.inr sz1) all0)
  show Goes p e below s _ _ _ (T7.setTop (mkF m 31 #[.val (.ref q), .val (.int (n32 u)), .val (.ref b1)] []))
  refine o_aloadN X7 hx (hb hby d_jdk_65_method_123_code_31) (v := (.ref b1)) rfl rfl (n := 32) rfl ?_
  exact o_areturn X7 hx hret hlk rfl rfl (hb hby d_jdk_65_method_123_code_32) (by decide) (by decide) e7 ⟨b1, k1, rfl, N7, K11, sz1, f10⟩
theorem d_jdk_65_method_124_code_0 : decode jdk_65_method_124_code 0 = .ok (.iload_n 1, 1) := by decide +kernel
theorem d_jdk_65_method_124_code_1 : decode jdk_65_method_124_code 1 = .ok (.aload_n 0, 1) := by decide +kernel
theorem d_jdk_65_method_124_code_2 : decode jdk_65_method_124_code 2 = .ok (.arraylength, 1) := by decide +kernel
theorem d_jdk_65_method_124_code_3 : decode jdk_65_method_124_code 3 = .ok (.if_icmp .ne 11, 3) := by decide +kernel
theorem d_jdk_65_method_124_code_14 : decode jdk_65_method_124_code 14 = .ok (.iload_n 1, 1) := by decide +kernel
theorem d_jdk_65_method_124_code_15 : decode jdk_65_method_124_code 15 = .ok (.newarray .long, 2) := by decide +kernel
theorem d_jdk_65_method_124_code_17 : decode jdk_65_method_124_code 17 = .ok (.astore_n 2, 1) := by decide +kernel
theorem d_jdk_65_method_124_code_18 : decode jdk_65_method_124_code 18 = .ok (.aload_n 0, 1) := by decide +kernel
theorem d_jdk_65_method_124_code_19 : decode jdk_65_method_124_code 19 = .ok (.iconst 0, 1) := by decide +kernel
theorem d_jdk_65_method_124_code_20 : decode jdk_65_method_124_code 20 = .ok (.aload_n 2, 1) := by decide +kernel
theorem d_jdk_65_method_124_code_21 : decode jdk_65_method_124_code 21 = .ok (.iconst 0, 1) := by decide +kernel
theorem d_jdk_65_method_124_code_22 : decode jdk_65_method_124_code 22 = .ok (.aload_n 0, 1) := by decide +kernel
theorem d_jdk_65_method_124_code_23 : decode jdk_65_method_124_code 23 = .ok (.arraylength, 1) := by decide +kernel
theorem d_jdk_65_method_124_code_24 : decode jdk_65_method_124_code 24 = .ok (.iload_n 1, 1) := by decide +kernel
theorem d_jdk_65_method_124_code_25 : decode jdk_65_method_124_code 25 = .ok (.invokestatic 304, 3) := by decide +kernel
theorem d_jdk_65_method_124_code_28 : decode jdk_65_method_124_code 28 = .ok (.invokestatic 150, 3) := by decide +kernel
theorem d_jdk_65_method_124_code_31 : decode jdk_65_method_124_code 31 = .ok (.aload_n 2, 1) := by decide +kernel
theorem d_jdk_65_method_124_code_32 : decode jdk_65_method_124_code 32 = .ok (.areturn, 1) := by decide +kernel
theorem o_ef11 (m : MethodId) (q : Addr) (u : Nat) : entryFrame m #[(.ref q), (.int (n32 u))] 3 = mkF m 0 #[.val (.ref q), .val (.int (n32 u)), .unset] [] := by first | (simp [entryFrame, mkF, argsToLocals, Value.category]; done) | rfl
set_option maxRecDepth 65536 in
set_option maxHeartbeats 40000000 in
theorem c_cpJ (l : Launch) (Z : State) (a0 : Array Value) (hw : ∀ d ∈ tables_1, d.before a0 Z = true) (q : Addr) (k1 : ClassId) (vs : List Value) (n : Nat) (u : Nat) (h0 : Heap) (n0 : Nat) (Z0 : n0 ≤ h0.size) (pV_q : Arv Z h0 q k1 .long (n32 n) vs (.long (0 : Int64))) (hu : n < u) (hu8 : u ≤ 8) (hv : vs.length ≤ n) :
    Does l Z (⟨"java/util/Arrays", "copyOf", "([JI)[J"⟩ : MethodName) jdk_65_method_124_code 3 (some (.array .long)) [] ({ frames := 1, cells := 1, slots := 8, locals := 18 } : Room) #[(.ref q), (.int (n32 u))] h0 (fun v h L => ∃ (n1 : Addr) (kn : ClassId), v = some (.ref n1) ∧ Fr n0 L ∧ Keep h0 h [] ∧ h0.size ≤ n1 ∧ Arv Z h n1 kn .long (n32 u) vs (.long (0 : Int64))) := by
  refine Does.of (plainFor_of_name o_pn2) ?_
  intro p e s m below meth c T0 hx hby hml hown hnm hret hlk hZ X0 e0
  have hown : s.vm.findClass "java/util/Arrays" = some m.cls := hown
  have hml : c.maxLocals = 3 := hml
  have hret : meth.sig.returnType = some (.array .long) := hret
  refine o_entry (o_ef11 m q u) ?_
  have N0 := Fr.nil n0
  refine o_iloadN X0 hx (hb hby d_jdk_65_method_124_code_0) (v := (n32 u)) rfl (n := 1) rfl ?_
  refine o_aloadN X0 hx (hb hby d_jdk_65_method_124_code_1) (v := (.ref q)) rfl rfl (n := 2) rfl ?_
  refine o_arraylength X0 hx hZ e0 pV_q (hb hby d_jdk_65_method_124_code_2) (n := 3) rfl ?_
  refine o_icmpY X0 hx (hb hby d_jdk_65_method_124_code_3) (XT.ii_ne_t (fun z => absurd ((o_neq (by omega) (by omega)).mp z) (by omega))) (by decide) (n := 14) (by decide) ?_
  refine o_iloadN X0 hx (hb hby d_jdk_65_method_124_code_14) (v := (n32 u)) rfl (n := 15) rfl ?_
  refine o_newarray X0 hx hZ (aty := .long) (hw _ (List.mem_of_getElem? (i := 20) rfl)) e0 (hb hby d_jdk_65_method_124_code_15) (o_n0 (by omega)) 8 (by rw [o_nt (by omega)]; omega) (by decide) (by decide) (by decide) (n := 17) rfl ?_
  intro T1 h1 b1 k1 X1 e1 g1 E1 V1
  have ne2 : q ≠ b1 := Nat.ne_of_lt (Nat.lt_of_lt_of_eq pV_q.lt g1.symm)
  have gg1 : n0 ≤ b1 := Nat.le_trans Z0 (Nat.le_of_eq g1.symm)
  have zz1 : n0 ≤ h1.size := Nat.le_trans Z0 E1.1
  have sz1 : h0.size ≤ b1 := Nat.le_trans (Keep.refl h0 []).1 (Nat.le_of_eq g1.symm)
  have f3 := pV_q.ext E1
  have K4 : Keep h0 h1 [] := (Keep.refl h0 []).ext E1
  refine o_astoreN X1 hx (hb hby d_jdk_65_method_124_code_17) rfl (Ls' := #[.val (.ref q), .val (.int (n32 u)), .val (.ref b1)]) rfl (n := 18) rfl ?_
  refine o_aloadN X1 hx (hb hby d_jdk_65_method_124_code_18) (v := (.ref q)) rfl rfl (n := 19) rfl ?_
  refine o_iconst X1 hx (hb hby d_jdk_65_method_124_code_19) (v := (0 : Int32)) rfl (n := 20) rfl ?_
  refine o_aloadN X1 hx (hb hby d_jdk_65_method_124_code_20) (v := (.ref b1)) rfl rfl (n := 21) rfl ?_
  refine o_iconst X1 hx (hb hby d_jdk_65_method_124_code_21) (v := (0 : Int32)) rfl (n := 22) rfl ?_
  refine o_aloadN X1 hx (hb hby d_jdk_65_method_124_code_22) (v := (.ref q)) rfl rfl (n := 23) rfl ?_
  refine o_arraylength X1 hx hZ e1 f3 (hb hby d_jdk_65_method_124_code_23) (n := 24) rfl ?_
  refine o_iloadN X1 hx (hb hby d_jdk_65_method_124_code_24) (v := (n32 u)) rfl (n := 25) rfl ?_
  refine o_callS X1 hx hZ hown (hw _ (List.mem_of_getElem? (i := 82) rfl)) (hw _ (List.mem_of_getElem? (i := 77) rfl)) (hw _ (List.mem_of_getElem? (i := 42) rfl)) (hw _ (List.mem_of_getElem? (i := 78) rfl)) (by decide) e1 (argsL := [(.int (n32 n)), (.int (n32 u))]) (rest := [(.int (0 : Int32)), (.ref b1), (.int (0 : Int32)), (.ref q)]) ((o_mnl hu (by omega)) ▸ c_min l Z a0 hw (n32 n) (n32 u) h1) 4 (by decide) (by decide) (by decide) (by decide) (by rw [hml]; rfl) (lenOf o_pd3 rfl) rfl (Nat.le_of_eq rfl) (hb hby d_jdk_65_method_124_code_25) (n := 28) rfl ?_
  intro v5 T5 L5 X5 q5
  obtain ⟨rfl, e5, rfl⟩ := q5
  have N6 := Fr.app N0 (Fr.nil n0)
  show Goes p e below s _ _ _ (T5.setTop (mkF m 28 #[.val (.ref q), .val (.int (n32 u)), .val (.ref b1)] [(.int (n32 n)), (.int (0 : Int32)), (.ref b1), (.int (0 : Int32)), (.ref q)]))
  have f8 := V1.pad (pad_rep [] (.long (0 : Int64)) n)
  refine o_acopy X5 hx hZ hown (hw _ (List.mem_of_getElem? (i := 83) rfl)) (hw _ (List.mem_of_getElem? (i := 86) rfl)) (hw _ (List.mem_of_getElem? (i := 84) rfl)) (hw _ (List.mem_of_getElem? (i := 85) rfl)) e5 f3 f8 (Or.inl ⟨rfl, rfl⟩) (o_ach hu hu8 vs (.long (0 : Int64))) N6 gg1 (by rw [hml]; rfl) (hb hby d_jdk_65_method_124_code_28) (by decide) 0 (Nat.le_of_eq rfl) (by decide) (n := 31) rfl ?_
  intro T7 h7 L7 X7 e7 N7 K7 V7
  have f9 := f3.keep K7 (ninS ne2 nin0)
  have f10 : Arv Z h7 b1 k1 .long (n32 u) vs (.long (0 : Int64)) := V7.pad (o_acl (by omega) vs (.long (0 : Int64)) hv)
  have zz7 : n0 ≤ h7.size := Nat.le_trans zz1 K7.1
  have K11 : Keep h0 h7 [] := K4.trans K7 (allS (P := fun x => x ∈ [] ∨ h0.size ≤ x) (Or.inr sz1) all0)
  show Goes p e below s _ _ _ (T7.setTop (mkF m 31 #[.val (.ref q), .val (.int (n32 u)), .val (.ref b1)] []))
  refine o_aloadN X7 hx (hb hby d_jdk_65_method_124_code_31) (v := (.ref b1)) rfl rfl (n := 32) rfl ?_
  exact o_areturn X7 hx hret hlk rfl rfl (hb hby d_jdk_65_method_124_code_32) (by decide) (by decide) e7 ⟨b1, k1, rfl, N7, K11, sz1, f10⟩
theorem d_prog_12_method_4_code_183 : decode prog_12_method_4_code 183 = .ok (.aload_n 0, 1) := by decide +kernel
theorem d_prog_12_method_4_code_184 : decode prog_12_method_4_code 184 = .ok (.getfield 20, 3) := by decide +kernel
theorem d_prog_12_method_4_code_187 : decode prog_12_method_4_code 187 = .ok (.aload_n 0, 1) := by decide +kernel
theorem d_prog_12_method_4_code_188 : decode prog_12_method_4_code 188 = .ok (.getfield 68, 3) := by decide +kernel
theorem d_prog_12_method_4_code_191 : decode prog_12_method_4_code 191 = .ok (.iload_n 1, 1) := by decide +kernel
theorem d_prog_12_method_4_code_192 : decode prog_12_method_4_code 192 = .ok (.iastore, 1) := by decide +kernel
theorem d_prog_12_method_4_code_193 : decode prog_12_method_4_code 193 = .ok (.aload_n 0, 1) := by decide +kernel
theorem d_prog_12_method_4_code_194 : decode prog_12_method_4_code 194 = .ok (.getfield 24, 3) := by decide +kernel
theorem d_prog_12_method_4_code_197 : decode prog_12_method_4_code 197 = .ok (.aload_n 0, 1) := by decide +kernel
theorem d_prog_12_method_4_code_198 : decode prog_12_method_4_code 198 = .ok (.getfield 68, 3) := by decide +kernel
theorem d_prog_12_method_4_code_201 : decode prog_12_method_4_code 201 = .ok (.iload_n 2, 1) := by decide +kernel
theorem d_prog_12_method_4_code_202 : decode prog_12_method_4_code 202 = .ok (.iastore, 1) := by decide +kernel
theorem d_prog_12_method_4_code_203 : decode prog_12_method_4_code 203 = .ok (.aload_n 0, 1) := by decide +kernel
theorem d_prog_12_method_4_code_204 : decode prog_12_method_4_code 204 = .ok (.getfield 27, 3) := by decide +kernel
theorem d_prog_12_method_4_code_207 : decode prog_12_method_4_code 207 = .ok (.aload_n 0, 1) := by decide +kernel
theorem d_prog_12_method_4_code_208 : decode prog_12_method_4_code 208 = .ok (.getfield 68, 3) := by decide +kernel
theorem d_prog_12_method_4_code_211 : decode prog_12_method_4_code 211 = .ok (.ldc2_w 42, 3) := by decide +kernel
theorem d_prog_12_method_4_code_214 : decode prog_12_method_4_code 214 = .ok (.bipush 64, 2) := by decide +kernel
theorem d_prog_12_method_4_code_216 : decode prog_12_method_4_code 216 = .ok (.iload_n 3, 1) := by decide +kernel
theorem d_prog_12_method_4_code_217 : decode prog_12_method_4_code 217 = .ok (.isub, 1) := by decide +kernel
theorem d_prog_12_method_4_code_218 : decode prog_12_method_4_code 218 = .ok (.lushr, 1) := by decide +kernel
theorem d_prog_12_method_4_code_219 : decode prog_12_method_4_code 219 = .ok (.lastore, 1) := by decide +kernel
theorem d_prog_12_method_4_code_220 : decode prog_12_method_4_code 220 = .ok (.aload_n 0, 1) := by decide +kernel
theorem d_prog_12_method_4_code_221 : decode prog_12_method_4_code 221 = .ok (.getfield 30, 3) := by decide +kernel
theorem d_prog_12_method_4_code_224 : decode prog_12_method_4_code 224 = .ok (.aload_n 0, 1) := by decide +kernel
theorem d_prog_12_method_4_code_225 : decode prog_12_method_4_code 225 = .ok (.getfield 68, 3) := by decide +kernel
theorem d_prog_12_method_4_code_228 : decode prog_12_method_4_code 228 = .ok (.iload 4, 2) := by decide +kernel
theorem d_prog_12_method_4_code_230 : decode prog_12_method_4_code 230 = .ok (.iastore, 1) := by decide +kernel
theorem d_prog_12_method_4_code_231 : decode prog_12_method_4_code 231 = .ok (.aload_n 0, 1) := by decide +kernel
theorem d_prog_12_method_4_code_232 : decode prog_12_method_4_code 232 = .ok (.getfield 33, 3) := by decide +kernel
theorem d_prog_12_method_4_code_235 : decode prog_12_method_4_code 235 = .ok (.aload_n 0, 1) := by decide +kernel
theorem d_prog_12_method_4_code_236 : decode prog_12_method_4_code 236 = .ok (.getfield 68, 3) := by decide +kernel
theorem d_prog_12_method_4_code_239 : decode prog_12_method_4_code 239 = .ok (.aload_n 0, 1) := by decide +kernel
theorem d_prog_12_method_4_code_240 : decode prog_12_method_4_code 240 = .ok (.getfield 39, 3) := by decide +kernel
theorem d_prog_12_method_4_code_243 : decode prog_12_method_4_code 243 = .ok (.iload 4, 2) := by decide +kernel
theorem d_prog_12_method_4_code_245 : decode prog_12_method_4_code 245 = .ok (.iaload, 1) := by decide +kernel
theorem d_prog_12_method_4_code_246 : decode prog_12_method_4_code 246 = .ok (.iastore, 1) := by decide +kernel
theorem d_prog_12_method_4_code_247 : decode prog_12_method_4_code 247 = .ok (.aload_n 0, 1) := by decide +kernel
theorem d_prog_12_method_4_code_248 : decode prog_12_method_4_code 248 = .ok (.getfield 39, 3) := by decide +kernel
theorem d_prog_12_method_4_code_251 : decode prog_12_method_4_code 251 = .ok (.iload 4, 2) := by decide +kernel
theorem d_prog_12_method_4_code_253 : decode prog_12_method_4_code 253 = .ok (.dup2, 1) := by decide +kernel
theorem d_prog_12_method_4_code_254 : decode prog_12_method_4_code 254 = .ok (.iaload, 1) := by decide +kernel
theorem d_prog_12_method_4_code_255 : decode prog_12_method_4_code 255 = .ok (.iload_n 3, 1) := by decide +kernel
theorem d_prog_12_method_4_code_256 : decode prog_12_method_4_code 256 = .ok (.iadd, 1) := by decide +kernel
theorem d_prog_12_method_4_code_257 : decode prog_12_method_4_code 257 = .ok (.iastore, 1) := by decide +kernel
theorem d_prog_12_method_4_code_258 : decode prog_12_method_4_code 258 = .ok (.aload_n 0, 1) := by decide +kernel
theorem d_prog_12_method_4_code_259 : decode prog_12_method_4_code 259 = .ok (.dup, 1) := by decide +kernel
theorem d_prog_12_method_4_code_260 : decode prog_12_method_4_code 260 = .ok (.getfield 68, 3) := by decide +kernel
theorem d_prog_12_method_4_code_263 : decode prog_12_method_4_code 263 = .ok (.dup_x1, 1) := by decide +kernel
theorem d_prog_12_method_4_code_264 : decode prog_12_method_4_code 264 = .ok (.iconst 1, 1) := by decide +kernel
theorem d_prog_12_method_4_code_265 : decode prog_12_method_4_code 265 = .ok (.iadd, 1) := by decide +kernel
theorem d_prog_12_method_4_code_266 : decode prog_12_method_4_code 266 = .ok (.putfield 68, 3) := by decide +kernel
theorem d_prog_12_method_4_code_269 : decode prog_12_method_4_code 269 = .ok (.ireturn, 1) := by decide +kernel
theorem d_prog_12_method_4_code_81 : decode prog_12_method_4_code 81 = .ok (.aload_n 0, 1) := by decide +kernel
theorem d_prog_12_method_4_code_82 : decode prog_12_method_4_code 82 = .ok (.getfield 68, 3) := by decide +kernel
theorem d_prog_12_method_4_code_85 : decode prog_12_method_4_code 85 = .ok (.aload_n 0, 1) := by decide +kernel
theorem d_prog_12_method_4_code_86 : decode prog_12_method_4_code 86 = .ok (.getfield 20, 3) := by decide +kernel
theorem d_prog_12_method_4_code_89 : decode prog_12_method_4_code 89 = .ok (.arraylength, 1) := by decide +kernel
theorem d_prog_12_method_4_code_90 : decode prog_12_method_4_code 90 = .ok (.if_icmp .ne 93, 3) := by decide +kernel
theorem d_prog_12_method_4_code_93 : decode prog_12_method_4_code 93 = .ok (.iconst 1, 1) := by decide +kernel
theorem d_prog_12_method_4_code_94 : decode prog_12_method_4_code 94 = .ok (.iconst 2, 1) := by decide +kernel
theorem d_prog_12_method_4_code_95 : decode prog_12_method_4_code 95 = .ok (.aload_n 0, 1) := by decide +kernel
theorem d_prog_12_method_4_code_96 : decode prog_12_method_4_code 96 = .ok (.getfield 68, 3) := by decide +kernel
theorem d_prog_12_method_4_code_99 : decode prog_12_method_4_code 99 = .ok (.imul, 1) := by decide +kernel
theorem d_prog_12_method_4_code_100 : decode prog_12_method_4_code 100 = .ok (.invokestatic 48, 3) := by decide +kernel
theorem d_prog_12_method_4_code_103 : decode prog_12_method_4_code 103 = .ok (.istore 5, 2) := by decide +kernel
theorem d_prog_12_method_4_code_105 : decode prog_12_method_4_code 105 = .ok (.aload_n 0, 1) := by decide +kernel
theorem d_prog_12_method_4_code_106 : decode prog_12_method_4_code 106 = .ok (.aload_n 0, 1) := by decide +kernel
theorem d_prog_12_method_4_code_107 : decode prog_12_method_4_code 107 = .ok (.getfield 20, 3) := by decide +kernel
theorem d_prog_12_method_4_code_110 : decode prog_12_method_4_code 110 = .ok (.iload 5, 2) := by decide +kernel
theorem d_prog_12_method_4_code_112 : decode prog_12_method_4_code 112 = .ok (.invokestatic 64, 3) := by decide +kernel
theorem o_pd4 : parseMethodDescriptor "([II)[I" = some ⟨[(.array .int), .int], some (.array .int)⟩ := by decide +kernel
theorem d_prog_12_method_4_code_115 : decode prog_12_method_4_code 115 = .ok (.putfield 20, 3) := by decide +kernel
theorem d_prog_12_method_4_code_118 : decode prog_12_method_4_code 118 = .ok (.aload_n 0, 1) := by decide +kernel
theorem d_prog_12_method_4_code_119 : decode prog_12_method_4_code 119 = .ok (.aload_n 0, 1) := by decide +kernel
theorem d_prog_12_method_4_code_120 : decode prog_12_method_4_code 120 = .ok (.getfield 24, 3) := by decide +kernel
theorem d_prog_12_method_4_code_123 : decode prog_12_method_4_code 123 = .ok (.iload 5, 2) := by decide +kernel
theorem d_prog_12_method_4_code_125 : decode prog_12_method_4_code 125 = .ok (.invokestatic 64, 3) := by decide +kernel
theorem d_prog_12_method_4_code_128 : decode prog_12_method_4_code 128 = .ok (.putfield 24, 3) := by decide +kernel
theorem d_prog_12_method_4_code_131 : decode prog_12_method_4_code 131 = .ok (.aload_n 0, 1) := by decide +kernel
theorem d_prog_12_method_4_code_132 : decode prog_12_method_4_code 132 = .ok (.aload_n 0, 1) := by decide +kernel
theorem d_prog_12_method_4_code_133 : decode prog_12_method_4_code 133 = .ok (.getfield 27, 3) := by decide +kernel
theorem d_prog_12_method_4_code_136 : decode prog_12_method_4_code 136 = .ok (.iload 5, 2) := by decide +kernel
theorem d_prog_12_method_4_code_138 : decode prog_12_method_4_code 138 = .ok (.invokestatic 71, 3) := by decide +kernel
theorem o_pd5 : parseMethodDescriptor "([JI)[J" = some ⟨[(.array .long), .int], some (.array .long)⟩ := by decide +kernel
theorem d_prog_12_method_4_code_141 : decode prog_12_method_4_code 141 = .ok (.putfield 27, 3) := by decide +kernel
theorem d_prog_12_method_4_code_144 : decode prog_12_method_4_code 144 = .ok (.aload_n 0, 1) := by decide +kernel
theorem d_prog_12_method_4_code_145 : decode prog_12_method_4_code 145 = .ok (.aload_n 0, 1) := by decide +kernel
theorem d_prog_12_method_4_code_146 : decode prog_12_method_4_code 146 = .ok (.getfield 30, 3) := by decide +kernel
theorem d_prog_12_method_4_code_149 : decode prog_12_method_4_code 149 = .ok (.iload 5, 2) := by decide +kernel
theorem d_prog_12_method_4_code_151 : decode prog_12_method_4_code 151 = .ok (.invokestatic 64, 3) := by decide +kernel
theorem d_prog_12_method_4_code_154 : decode prog_12_method_4_code 154 = .ok (.putfield 30, 3) := by decide +kernel
theorem d_prog_12_method_4_code_157 : decode prog_12_method_4_code 157 = .ok (.aload_n 0, 1) := by decide +kernel
theorem d_prog_12_method_4_code_158 : decode prog_12_method_4_code 158 = .ok (.aload_n 0, 1) := by decide +kernel
theorem d_prog_12_method_4_code_159 : decode prog_12_method_4_code 159 = .ok (.getfield 33, 3) := by decide +kernel
theorem d_prog_12_method_4_code_162 : decode prog_12_method_4_code 162 = .ok (.iload 5, 2) := by decide +kernel
theorem d_prog_12_method_4_code_164 : decode prog_12_method_4_code 164 = .ok (.invokestatic 64, 3) := by decide +kernel
theorem d_prog_12_method_4_code_167 : decode prog_12_method_4_code 167 = .ok (.putfield 33, 3) := by decide +kernel
theorem d_prog_12_method_4_code_170 : decode prog_12_method_4_code 170 = .ok (.aload_n 0, 1) := by decide +kernel
theorem d_prog_12_method_4_code_171 : decode prog_12_method_4_code 171 = .ok (.aload_n 0, 1) := by decide +kernel
theorem d_prog_12_method_4_code_172 : decode prog_12_method_4_code 172 = .ok (.getfield 36, 3) := by decide +kernel
theorem d_prog_12_method_4_code_175 : decode prog_12_method_4_code 175 = .ok (.iload 5, 2) := by decide +kernel
theorem d_prog_12_method_4_code_177 : decode prog_12_method_4_code 177 = .ok (.invokestatic 64, 3) := by decide +kernel
theorem d_prog_12_method_4_code_180 : decode prog_12_method_4_code 180 = .ok (.putfield 36, 3) := by decide +kernel
theorem d_prog_12_method_4_code_0 : decode prog_12_method_4_code 0 = .ok (.iload 4, 2) := by decide +kernel
theorem d_prog_12_method_4_code_2 : decode prog_12_method_4_code 2 = .ok (.aload_n 0, 1) := by decide +kernel
theorem d_prog_12_method_4_code_3 : decode prog_12_method_4_code 3 = .ok (.getfield 44, 3) := by decide +kernel
theorem d_prog_12_method_4_code_6 : decode prog_12_method_4_code 6 = .ok (.if_icmp .ge 23, 3) := by decide +kernel
theorem d_prog_12_method_4_code_29 : decode prog_12_method_4_code 29 = .ok (.iload 4, 2) := by decide +kernel
theorem d_prog_12_method_4_code_31 : decode prog_12_method_4_code 31 = .ok (.aload_n 0, 1) := by decide +kernel
theorem d_prog_12_method_4_code_32 : decode prog_12_method_4_code 32 = .ok (.getfield 44, 3) := by decide +kernel
theorem d_prog_12_method_4_code_35 : decode prog_12_method_4_code 35 = .ok (.if_icmp .ne 46, 3) := by decide +kernel
theorem d_prog_12_method_4_code_38 : decode prog_12_method_4_code 38 = .ok (.aload_n 0, 1) := by decide +kernel
theorem d_prog_12_method_4_code_39 : decode prog_12_method_4_code 39 = .ok (.getfield 44, 3) := by decide +kernel
theorem d_prog_12_method_4_code_42 : decode prog_12_method_4_code 42 = .ok (.aload_n 0, 1) := by decide +kernel
theorem d_prog_12_method_4_code_43 : decode prog_12_method_4_code 43 = .ok (.getfield 39, 3) := by decide +kernel
theorem d_prog_12_method_4_code_46 : decode prog_12_method_4_code 46 = .ok (.arraylength, 1) := by decide +kernel
theorem d_prog_12_method_4_code_47 : decode prog_12_method_4_code 47 = .ok (.if_icmp .ne 24, 3) := by decide +kernel
theorem d_prog_12_method_4_code_50 : decode prog_12_method_4_code 50 = .ok (.aload_n 0, 1) := by decide +kernel
theorem d_prog_12_method_4_code_51 : decode prog_12_method_4_code 51 = .ok (.aload_n 0, 1) := by decide +kernel
theorem d_prog_12_method_4_code_52 : decode prog_12_method_4_code 52 = .ok (.getfield 39, 3) := by decide +kernel
theorem d_prog_12_method_4_code_55 : decode prog_12_method_4_code 55 = .ok (.iconst 1, 1) := by decide +kernel
theorem d_prog_12_method_4_code_56 : decode prog_12_method_4_code 56 = .ok (.iconst 2, 1) := by decide +kernel
theorem d_prog_12_method_4_code_57 : decode prog_12_method_4_code 57 = .ok (.aload_n 0, 1) := by decide +kernel
theorem d_prog_12_method_4_code_58 : decode prog_12_method_4_code 58 = .ok (.getfield 44, 3) := by decide +kernel
theorem d_prog_12_method_4_code_61 : decode prog_12_method_4_code 61 = .ok (.imul, 1) := by decide +kernel
theorem d_prog_12_method_4_code_62 : decode prog_12_method_4_code 62 = .ok (.invokestatic 48, 3) := by decide +kernel
theorem d_prog_12_method_4_code_65 : decode prog_12_method_4_code 65 = .ok (.invokestatic 64, 3) := by decide +kernel
theorem d_prog_12_method_4_code_68 : decode prog_12_method_4_code 68 = .ok (.putfield 39, 3) := by decide +kernel
theorem d_prog_12_method_4_code_71 : decode prog_12_method_4_code 71 = .ok (.aload_n 0, 1) := by decide +kernel
theorem d_prog_12_method_4_code_72 : decode prog_12_method_4_code 72 = .ok (.dup, 1) := by decide +kernel
theorem d_prog_12_method_4_code_73 : decode prog_12_method_4_code 73 = .ok (.getfield 44, 3) := by decide +kernel
theorem d_prog_12_method_4_code_76 : decode prog_12_method_4_code 76 = .ok (.iconst 1, 1) := by decide +kernel
theorem d_prog_12_method_4_code_77 : decode prog_12_method_4_code 77 = .ok (.iadd, 1) := by decide +kernel
theorem d_prog_12_method_4_code_78 : decode prog_12_method_4_code 78 = .ok (.putfield 44, 3) := by decide +kernel
theorem d_prog_12_method_4_code_9 : decode prog_12_method_4_code 9 = .ok (.aload_n 0, 1) := by decide +kernel
theorem d_prog_12_method_4_code_10 : decode prog_12_method_4_code 10 = .ok (.getfield 39, 3) := by decide +kernel
theorem d_prog_12_method_4_code_13 : decode prog_12_method_4_code 13 = .ok (.iload 4, 2) := by decide +kernel
theorem d_prog_12_method_4_code_15 : decode prog_12_method_4_code 15 = .ok (.iaload, 1) := by decide +kernel
theorem d_prog_12_method_4_code_16 : decode prog_12_method_4_code 16 = .ok (.iload_n 3, 1) := by decide +kernel
theorem d_prog_12_method_4_code_17 : decode prog_12_method_4_code 17 = .ok (.iadd, 1) := by decide +kernel
theorem d_prog_12_method_4_code_18 : decode prog_12_method_4_code 18 = .ok (.bipush 64, 2) := by decide +kernel
theorem d_prog_12_method_4_code_20 : decode prog_12_method_4_code 20 = .ok (.if_icmp .le 9, 3) := by decide +kernel
theorem d_prog_12_method_4_code_23 : decode prog_12_method_4_code 23 = .ok (.iinc 4 1, 3) := by decide +kernel
theorem d_prog_12_method_4_code_26 : decode prog_12_method_4_code 26 = .ok (.goto (-26), 3) := by decide +kernel
theorem o_ef12 (m : MethodId) (a1 : Addr) (pl : Nat) (lo : Nat) (wd : Nat) : entryFrame m #[(.ref a1), (.int (n32 pl)), (.int (n32 lo)), (.int (n32 wd)), (.int (0 : Int32))] 6 = mkF m 0 #[.val (.ref a1), .val (.int (n32 pl)), .val (.int (n32 lo)), .val (.int (n32 wd)), .val (.int (0 : Int32)), .unset] [] := by first | (simp [entryFrame, mkF, argsToLocals, Value.category]; done) | rfl
set_option maxRecDepth 65536 in
set_option maxHeartbeats 40000000 in
theorem c_add (l : Launch) (Z : State) (a0 : Array Value) (hw : ∀ d ∈ tables_1, d.before a0 Z = true) (a1 : Addr) (A : o_A) (C : o_C) (pl lo wd : Nat) (h0 : Heap) (n0 : Nat) (Z0 : n0 ≤ h0.size) (pL : o_L Z h0 n0 a1 A C) (I : o_Inv C) (hn : C.P.length ≤ 5) (hwd : wd ≤ 64) :
    Does l Z (⟨"com/example/marke/marke/analysis/MarkingLayout", "addPiece", "(IIII)I"⟩ : MethodName) prog_12_method_4_code 6 (some .int) [] ({ frames := 2, cells := 7, slots := 56, locals := 33 } : Room) #[(.ref a1), (.int (n32 pl)), (.int (n32 lo)), (.int (n32 wd)), (.int (0 : Int32))] h0 (fun v h L => ∃ A' : o_A, v = some (.int (n32 C.P.length)) ∧ Fr n0 L ∧ Keep h0 h (a1 :: A.all) ∧ (∀ y ∈ a1 :: A'.all, y ∈ a1 :: A.all ∨ h0.size ≤ y) ∧ o_L Z h n0 a1 A' (o_add C pl lo wd)) := by
  refine Does.of (plainFor_of_name o_pn3) ?_
  intro p e s m below meth c T0 hx hby hml hown hnm hret hlk hZ X0 e0
  have hown : s.vm.findClass "com/example/marke/marke/analysis/MarkingLayout" = some m.cls := hown
  have hml : c.maxLocals = 6 := hml
  have hret : meth.sig.returnType = some .int := hret
  refine o_entry (o_ef12 m a1 pl lo wd) ?_
  have N0 := Fr.nil n0
  obtain ⟨hT, bT, bcT, lT, bP, bcP, lP⟩ := o_bnd I hn
  have k183 : ∀ (T_ : State) (h_ : Heap) (Lc : List Loc) (B : o_A) (zP : Nat) (zT : Nat) (tl : Nat) (sl5 : Slot), Stand p l e (({ frames := 2, cells := 7, slots := 56, locals := 33 } : Room)) s m #[(.ref a1), (.int (n32 pl)), (.int (n32 lo)), (.int (n32 wd)), (.int (0 : Int32))] below meth c T_ Lc 7 56 → T_.heap = h_ → Fr n0 Lc → n0 ≤ h_.size → Keep h0 h_ [a1, A.l, A.p, A.lo, A.m, A.w, A.s, A.x, A.t] → (∀ y ∈ a1 :: B.all, y ∈ a1 :: A.all ∨ h0.size ≤ y) → (o_M Z h_ n0 a1 B C zP zT tl (o_ts1 C.ts (o_ff C.ts wd))) → (o_cap (o_ts C.ts wd).length = zT) → ((o_ts C.ts wd).length = tl) → ((o_ff C.ts wd) < zT) → (zT < 2147483648) → (o_cap (C.P.length + 1) = zP) → (C.P.length < zP) → (zP < 2147483648) → Goes p e below s (fun v h L => ∃ A' : o_A, v = some (.int (n32 C.P.length)) ∧ Fr n0 L ∧ Keep h0 h (a1 :: A.all) ∧ (∀ y ∈ a1 :: A'.all, y ∈ a1 :: A.all ∨ h0.size ≤ y) ∧ o_L Z h n0 a1 A' (o_add C pl lo wd)) (({ frames := 2, cells := 7, slots := 56, locals := 33 } : Room)).cells (({ frames := 2, cells := 7, slots := 56, locals := 33 } : Room)).slots (T_.setTop (mkF m 183 #[.val (.ref a1), .val (.int (n32 pl)), .val (.int (n32 lo)), .val (.int (n32 wd)), .val (.int (n32 (o_ff C.ts wd))), sl5] [])) := by
    intro T_ h_ Lc B zP zT tl sl5 X_ e_ N_ zz_ K_ hsub hM hzT htl hJz bz hzP hPz bzP
    obtain ⟨nd1_01, nd1_02, nd1_03, nd1_04, nd1_05, nd1_06, nd1_07, nd1_08, nd1_12, nd1_13, nd1_14, nd1_15, nd1_16, nd1_17, nd1_18, nd1_23, nd1_24, nd1_25, nd1_26, nd1_27, nd1_28, nd1_34, nd1_35, nd1_36, nd1_37, nd1_38, nd1_45, nd1_46, nd1_47, nd1_48, nd1_56, nd1_57, nd1_58, nd1_67, nd1_68, nd1_78⟩ := o_nd36 hM.nd
    refine o_aloadN X_ hx (hb hby d_prog_12_method_4_code_183) (v := (.ref a1)) rfl rfl (n := 184) rfl ?_
    refine o_getfield X_ hx hZ hown (host := "") (Or.inl (hw _ (List.mem_of_getElem? (i := 23) rfl))) Via.refl e_ hM.f_places (hb hby d_prog_12_method_4_code_184) (n := 187) rfl ?_
    intro T2 X2 e2
    refine o_aloadN X2 hx (hb hby d_prog_12_method_4_code_187) (v := (.ref a1)) rfl rfl (n := 188) rfl ?_
    refine o_getfield X2 hx hZ hown (host := "") (Or.inl (hw _ (List.mem_of_getElem? (i := 48) rfl))) Via.refl e2 hM.f_pieces (hb hby d_prog_12_method_4_code_188) (n := 191) rfl ?_
    intro T3 X3 e3
    refine o_iloadN X3 hx (hb hby d_prog_12_method_4_code_191) (v := (n32 pl)) rfl (n := 192) rfl ?_
    have f5 := hM.v_places.pad (pad_rep _ _ 1)
    refine o_iastore X3 hx hZ e3 f5 (C.P.length) (o_nt bP) (o_ix hPz bzP) (by simp) (w := (.int (n32 pl))) rfl (vs' := ((C.P ++ [o_pc C pl lo wd]).map fun (q : o_P) => .int (n32 q.pl))) (o_snoc (fun q : o_P => (.int (n32 q.pl) : Value)) C.P (o_pc C pl lo wd) (.int 0)) (hb hby d_prog_12_method_4_code_192) (n := 193) rfl ?_
    intro T4 h4 X4 e4 W4 V4
    have zz4 : n0 ≤ h4.size := Nat.le_trans zz_ (Nat.le_of_eq W4.size.symm)
    have N24 := Fr.snoc X4 N_ (hM.ge _ (List.mem_of_getElem? (i := 2) rfl))
    have K25 : Keep h0 h4 [a1, A.l, A.p, A.lo, A.m, A.w, A.s, A.x, A.t] := K_.wr W4 (hsub _ (List.mem_of_getElem? (i := 2) rfl))
    refine o_aloadN X4 hx (hb hby d_prog_12_method_4_code_193) (v := (.ref a1)) rfl rfl (n := 194) rfl ?_
    refine o_getfield X4 hx hZ hown (host := "") (Or.inl (hw _ (List.mem_of_getElem? (i := 25) rfl))) Via.refl e4 (hM.f_lows.other W4 (Or.inl nd1_02)) (hb hby d_prog_12_method_4_code_194) (n := 197) rfl ?_
    intro T26 X26 e26
    refine o_aloadN X26 hx (hb hby d_prog_12_method_4_code_197) (v := (.ref a1)) rfl rfl (n := 198) rfl ?_
    refine o_getfield X26 hx hZ hown (host := "") (Or.inl (hw _ (List.mem_of_getElem? (i := 48) rfl))) Via.refl e26 (hM.f_pieces.other W4 (Or.inl nd1_02)) (hb hby d_prog_12_method_4_code_198) (n := 201) rfl ?_
    intro T27 X27 e27
    refine o_iloadN X27 hx (hb hby d_prog_12_method_4_code_201) (v := (n32 lo)) rfl (n := 202) rfl ?_
    have f29 := (hM.v_lows.other W4 (Ne.symm nd1_23)).pad (pad_rep _ _ 1)
    refine o_iastore X27 hx hZ e27 f29 (C.P.length) (o_nt bP) (o_ix hPz bzP) (by simp) (w := (.int (n32 lo))) rfl (vs' := ((C.P ++ [o_pc C pl lo wd]).map fun (q : o_P) => .int (n32 q.lo))) (o_snoc (fun q : o_P => (.int (n32 q.lo) : Value)) C.P (o_pc C pl lo wd) (.int 0)) (hb hby d_prog_12_method_4_code_202) (n := 203) rfl ?_
    intro T28 h28 X28 e28 W28 V28
    have zz28 : n0 ≤ h28.size := Nat.le_trans zz4 (Nat.le_of_eq W28.size.symm)
    have N48 := Fr.snoc X28 N24 (hM.ge _ (List.mem_of_getElem? (i := 3) rfl))
    have K49 : Keep h0 h28 [a1, A.l, A.p, A.lo, A.m, A.w, A.s, A.x, A.t] := K25.wr W28 (hsub _ (List.mem_of_getElem? (i := 3) rfl))
    refine o_aloadN X28 hx (hb hby d_prog_12_method_4_code_203) (v := (.ref a1)) rfl rfl (n := 204) rfl ?_
    have f50 := ((hM.f_masks.other W4 (Or.inl nd1_02)).other W28 (Or.inl nd1_03))
    refine o_getfield X28 hx hZ hown (host := "") (Or.inl (hw _ (List.mem_of_getElem? (i := 27) rfl))) Via.refl e28 f50 (hb hby d_prog_12_method_4_code_204) (n := 207) rfl ?_
    intro T51 X51 e51
    refine o_aloadN X51 hx (hb hby d_prog_12_method_4_code_207) (v := (.ref a1)) rfl rfl (n := 208) rfl ?_
    have f52 := ((hM.f_pieces.other W4 (Or.inl nd1_02)).other W28 (Or.inl nd1_03))
    refine o_getfield X51 hx hZ hown (host := "") (Or.inl (hw _ (List.mem_of_getElem? (i := 48) rfl))) Via.refl e51 f52 (hb hby d_prog_12_method_4_code_208) (n := 211) rfl ?_
    intro T53 X53 e53
    refine o_ldc2_w X53 hx hZ (v := (-1 : Int64)) hown (hw _ (List.mem_of_getElem? (i := 37) rfl)) (hb hby d_prog_12_method_4_code_211) (n := 214) rfl ?_
    refine o_bipush X53 hx (hb hby d_prog_12_method_4_code_214) (v := (64 : Int32)) rfl (n := 216) rfl ?_
    refine o_iloadN X53 hx (hb hby d_prog_12_method_4_code_216) (v := (n32 wd)) rfl (n := 217) rfl ?_
    refine o_isub X53 hx (hb hby d_prog_12_method_4_code_217) (v := ((64 : Int32) - (n32 wd))) rfl (n := 218) rfl ?_
    refine o_lushr X53 hx (hb hby d_prog_12_method_4_code_218) (v := (o_mk (n32 wd))) rfl (n := 219) rfl ?_
    have f54 := ((hM.v_masks.other W4 (Ne.symm nd1_24)).other W28 (Ne.symm nd1_34))
    have f56 := f54.pad (pad_rep _ _ 1)
    refine o_lastore X53 hx hZ e53 f56 (C.P.length) (o_nt bP) (o_ix hPz bzP) (by simp) (w := (.long (o_mk (n32 wd)))) rfl (vs' := ((C.P ++ [o_pc C pl lo wd]).map fun (q : o_P) => .long (o_mk (n32 q.wd)))) (o_snoc (fun q : o_P => (.long (o_mk (n32 q.wd)) : Value)) C.P (o_pc C pl lo wd) (.long 0)) (hb hby d_prog_12_method_4_code_219) (n := 220) rfl ?_
    intro T55 h55 X55 e55 W55 V55
    have zz55 : n0 ≤ h55.size := Nat.le_trans zz28 (Nat.le_of_eq W55.size.symm)
    have N75 := Fr.snoc X55 N48 (hM.ge _ (List.mem_of_getElem? (i := 4) rfl))
    have K76 : Keep h0 h55 [a1, A.l, A.p, A.lo, A.m, A.w, A.s, A.x, A.t] := K49.wr W55 (hsub _ (List.mem_of_getElem? (i := 4) rfl))
    refine o_aloadN X55 hx (hb hby d_prog_12_method_4_code_220) (v := (.ref a1)) rfl rfl (n := 221) rfl ?_
    have f77 := (((hM.f_words.other W4 (Or.inl nd1_02)).other W28 (Or.inl nd1_03)).other W55 (Or.inl nd1_04))
    refine o_getfield X55 hx hZ hown (host := "") (Or.inl (hw _ (List.mem_of_getElem? (i := 29) rfl))) Via.refl e55 f77 (hb hby d_prog_12_method_4_code_221) (n := 224) rfl ?_
    intro T78 X78 e78
    refine o_aloadN X78 hx (hb hby d_prog_12_method_4_code_224) (v := (.ref a1)) rfl rfl (n := 225) rfl ?_
    refine o_getfield X78 hx hZ hown (host := "") (Or.inl (hw _ (List.mem_of_getElem? (i := 48) rfl))) Via.refl e78 (f52.other W55 (Or.inl nd1_04)) (hb hby d_prog_12_method_4_code_225) (n := 228) rfl ?_
    intro T79 X79 e79
    refine o_iload X79 hx (hb hby d_prog_12_method_4_code_228) (v := (n32 (o_ff C.ts wd))) rfl (n := 230) rfl ?_
    have f80 := (((hM.v_words.other W4 (Ne.symm nd1_25)).other W28 (Ne.symm nd1_35)).other W55 (Ne.symm nd1_45))
    have f82 := f80.pad (pad_rep _ _ 1)
    refine o_iastore X79 hx hZ e79 f82 (C.P.length) (o_nt bP) (o_ix hPz bzP) (by simp) (w := (.int (n32 (o_ff C.ts wd)))) rfl (vs' := ((C.P ++ [o_pc C pl lo wd]).map fun (q : o_P) => .int (n32 q.wo))) (o_snoc (fun q : o_P => (.int (n32 q.wo) : Value)) C.P (o_pc C pl lo wd) (.int 0)) (hb hby d_prog_12_method_4_code_230) (n := 231) rfl ?_
    intro T81 h81 X81 e81 W81 V81
    have zz81 : n0 ≤ h81.size := Nat.le_trans zz55 (Nat.le_of_eq W81.size.symm)
    have N101 := Fr.snoc X81 N75 (hM.ge _ (List.mem_of_getElem? (i := 5) rfl))
    have K102 : Keep h0 h81 [a1, A.l, A.p, A.lo, A.m, A.w, A.s, A.x, A.t] := K76.wr W81 (hsub _ (List.mem_of_getElem? (i := 5) rfl))
    refine o_aloadN X81 hx (hb hby d_prog_12_method_4_code_231) (v := (.ref a1)) rfl rfl (n := 232) rfl ?_
    have f103 := ((((hM.f_shifts.other W4 (Or.inl nd1_02)).other W28 (Or.inl nd1_03)).other W55 (Or.inl nd1_04)).other W81 (Or.inl nd1_05))
    refine o_getfield X81 hx hZ hown (host := "") (Or.inl (hw _ (List.mem_of_getElem? (i := 31) rfl))) Via.refl e81 f103 (hb hby d_prog_12_method_4_code_232) (n := 235) rfl ?_
    intro T104 X104 e104
    refine o_aloadN X104 hx (hb hby d_prog_12_method_4_code_235) (v := (.ref a1)) rfl rfl (n := 236) rfl ?_
    refine o_getfield X104 hx hZ hown (host := "") (Or.inl (hw _ (List.mem_of_getElem? (i := 48) rfl))) Via.refl e104 ((f52.other W55 (Or.inl nd1_04)).other W81 (Or.inl nd1_05)) (hb hby d_prog_12_method_4_code_236) (n := 239) rfl ?_
    intro T105 X105 e105
    refine o_aloadN X105 hx (hb hby d_prog_12_method_4_code_239) (v := (.ref a1)) rfl rfl (n := 240) rfl ?_
    have f106 := ((((hM.f_tops.other W4 (Or.inl nd1_02)).other W28 (Or.inl nd1_03)).other W55 (Or.inl nd1_04)).other W81 (Or.inl nd1_05))
    refine o_getfield X105 hx hZ hown (host := "") (Or.inl (hw _ (List.mem_of_getElem? (i := 35) rfl))) Via.refl e105 f106 (hb hby d_prog_12_method_4_code_240) (n := 243) rfl ?_
    intro T107 X107 e107
    refine o_iload X107 hx (hb hby d_prog_12_method_4_code_243) (v := (n32 (o_ff C.ts wd))) rfl (n := 245) rfl ?_
    have f108 := ((((hM.v_tops.other W4 (Ne.symm nd1_28)).other W28 (Ne.symm nd1_38)).other W55 (Ne.symm nd1_48)).other W81 (Ne.symm nd1_58))
    refine o_iaload X107 hx hZ e107 f108 ((o_ff C.ts wd)) (o_nt (Nat.lt_trans hJz bz)) (o_ix hJz bz) (v := (.int (n32 (C.ts.getD (o_ff C.ts wd) 0)))) (o_tsG _ _) (hb hby d_prog_12_method_4_code_245) (n := 246) rfl ?_
    have f109 := ((((hM.v_shifts.other W4 (Ne.symm nd1_26)).other W28 (Ne.symm nd1_36)).other W55 (Ne.symm nd1_46)).other W81 (Ne.symm nd1_56))
    have f111 := f109.pad (pad_rep _ _ 1)
    refine o_iastore X107 hx hZ e107 f111 (C.P.length) (o_nt bP) (o_ix hPz bzP) (by simp) (w := (.int (n32 (C.ts.getD (o_ff C.ts wd) 0)))) rfl (vs' := ((C.P ++ [o_pc C pl lo wd]).map fun (q : o_P) => .int (n32 q.sh))) (o_snoc (fun q : o_P => (.int (n32 q.sh) : Value)) C.P (o_pc C pl lo wd) (.int 0)) (hb hby d_prog_12_method_4_code_246) (n := 247) rfl ?_
    intro T110 h110 X110 e110 W110 V110
    have zz110 : n0 ≤ h110.size := Nat.le_trans zz81 (Nat.le_of_eq W110.size.symm)
    have N130 := Fr.snoc X110 N101 (hM.ge _ (List.mem_of_getElem? (i := 6) rfl))
    have K131 : Keep h0 h110 [a1, A.l, A.p, A.lo, A.m, A.w, A.s, A.x, A.t] := K102.wr W110 (hsub _ (List.mem_of_getElem? (i := 6) rfl))
    refine o_aloadN X110 hx (hb hby d_prog_12_method_4_code_247) (v := (.ref a1)) rfl rfl (n := 248) rfl ?_
    refine o_getfield X110 hx hZ hown (host := "") (Or.inl (hw _ (List.mem_of_getElem? (i := 35) rfl))) Via.refl e110 (f106.other W110 (Or.inl nd1_06)) (hb hby d_prog_12_method_4_code_248) (n := 251) rfl ?_
    intro T132 X132 e132
    refine o_iload X132 hx (hb hby d_prog_12_method_4_code_251) (v := (n32 (o_ff C.ts wd))) rfl (n := 253) rfl ?_
    refine o_dup2 X132 hx (hb hby d_prog_12_method_4_code_253) rfl rfl (n := 254) rfl ?_
    refine o_iaload X132 hx hZ e132 (f108.other W110 (Ne.symm nd1_68)) ((o_ff C.ts wd)) (o_nt (Nat.lt_trans hJz bz)) (o_ix hJz bz) (v := (.int (n32 (C.ts.getD (o_ff C.ts wd) 0)))) (o_tsG _ _) (hb hby d_prog_12_method_4_code_254) (n := 255) rfl ?_
    refine o_iloadN X132 hx (hb hby d_prog_12_method_4_code_255) (v := (n32 wd)) rfl (n := 256) rfl ?_
    refine o_iadd X132 hx (hb hby d_prog_12_method_4_code_256) (v := (n32 (C.ts.getD (o_ff C.ts wd) 0 + wd))) (o_nadd _ _) (n := 257) rfl ?_
    refine o_iastore X132 hx hZ e132 (f108.other W110 (Ne.symm nd1_68)) ((o_ff C.ts wd)) (o_nt (Nat.lt_trans hJz bz)) (o_ix hJz bz) (o_tsH _ _) (w := (.int (n32 (C.ts.getD (o_ff C.ts wd) 0 + wd)))) rfl (vs' := ((o_ts C.ts wd).map fun t => .int (n32 t))) (o_tsS _ _) (hb hby d_prog_12_method_4_code_257) (n := 258) rfl ?_
    intro T133 h133 X133 e133 W133 V133
    have zz133 : n0 ≤ h133.size := Nat.le_trans zz110 (Nat.le_of_eq W133.size.symm)
    have N152 := Fr.snoc X133 N130 (hM.ge _ (List.mem_of_getElem? (i := 8) rfl))
    have K153 : Keep h0 h133 [a1, A.l, A.p, A.lo, A.m, A.w, A.s, A.x, A.t] := K131.wr W133 (hsub _ (List.mem_of_getElem? (i := 8) rfl))
    refine o_aloadN X133 hx (hb hby d_prog_12_method_4_code_258) (v := (.ref a1)) rfl rfl (n := 259) rfl ?_
    refine o_dup X133 hx (hb hby d_prog_12_method_4_code_259) rfl (n := 260) rfl ?_
    have f154 := ((((f52.other W55 (Or.inl nd1_04)).other W81 (Or.inl nd1_05)).other W110 (Or.inl nd1_06)).other W133 (Or.inl nd1_08))
    refine o_getfield X133 hx hZ hown (host := "") (Or.inl (hw _ (List.mem_of_getElem? (i := 48) rfl))) Via.refl e133 f154 (hb hby d_prog_12_method_4_code_260) (n := 263) rfl ?_
    intro T155 X155 e155
    refine o_dup_x1 X155 hx (hb hby d_prog_12_method_4_code_263) rfl rfl (n := 264) rfl ?_
    refine o_iconst X155 hx (hb hby d_prog_12_method_4_code_264) (v := (1 : Int32)) rfl (n := 265) rfl ?_
    refine o_iadd X155 hx (hb hby d_prog_12_method_4_code_265) (v := (n32 (C.P.length + 1))) (o_nadd _ 1) (n := 266) rfl ?_
    refine o_putfield X155 hx hZ hown (host := "") (Or.inl (hw _ (List.mem_of_getElem? (i := 48) rfl))) Via.refl e155 f154 ((((((hM.E.wr W4).wr W28).wr W55).wr W81).wr W110).wr W133) (Or.inl (hw _ (List.mem_of_getElem? (i := 49) rfl))) (hw _ (List.mem_of_getElem? (i := 1) rfl)) (ty := .int) (by decide) rfl rfl (hb hby d_prog_12_method_4_code_266) (n := 269) rfl ?_
    intro T156 h156 X156 e156 W156 F156 E_156
    have zz156 : n0 ≤ h156.size := Nat.le_trans zz133 (Nat.le_of_eq W156.size.symm)
    have N174 := Fr.snoc X156 N152 (hM.ge _ (List.mem_of_getElem? (i := 0) rfl))
    have K175 : Keep h0 h156 [a1, A.l, A.p, A.lo, A.m, A.w, A.s, A.x, A.t] := K153.wr W156 (hsub _ (List.mem_of_getElem? (i := 0) rfl))
    have hLL : o_L Z h156 n0 a1 B (o_add C pl lo wd) := o_mkL zP zT tl hzP hzT htl hM.nd hM.ge E_156 (((((((hM.f_limits.other W4 (Or.inl nd1_02)).other W28 (Or.inl nd1_03)).other W55 (Or.inl nd1_04)).other W81 (Or.inl nd1_05)).other W110 (Or.inl nd1_06)).other W133 (Or.inl nd1_08)).other W156 (Or.inr (slot_ne (Or.inr (hw _ (List.mem_of_getElem? (i := 22) rfl))) (Or.inl (hw _ (List.mem_of_getElem? (i := 49) rfl))) (by decide) (t := (.array .long)) (t' := .int) (by decide) (by decide)))) (((((((hM.f_places.other W4 (Or.inl nd1_02)).other W28 (Or.inl nd1_03)).other W55 (Or.inl nd1_04)).other W81 (Or.inl nd1_05)).other W110 (Or.inl nd1_06)).other W133 (Or.inl nd1_08)).other W156 (Or.inr (slot_ne (Or.inl (hw _ (List.mem_of_getElem? (i := 24) rfl))) (Or.inl (hw _ (List.mem_of_getElem? (i := 49) rfl))) (by decide) (t := (.array .int)) (t' := .int) (by decide) (by decide)))) (((((((hM.f_lows.other W4 (Or.inl nd1_02)).other W28 (Or.inl nd1_03)).other W55 (Or.inl nd1_04)).other W81 (Or.inl nd1_05)).other W110 (Or.inl nd1_06)).other W133 (Or.inl nd1_08)).other W156 (Or.inr (slot_ne (Or.inl (hw _ (List.mem_of_getElem? (i := 26) rfl))) (Or.inl (hw _ (List.mem_of_getElem? (i := 49) rfl))) (by decide) (t := (.array .int)) (t' := .int) (by decide) (by decide)))) (((((f50.other W55 (Or.inl nd1_04)).other W81 (Or.inl nd1_05)).other W110 (Or.inl nd1_06)).other W133 (Or.inl nd1_08)).other W156 (Or.inr (slot_ne (Or.inl (hw _ (List.mem_of_getElem? (i := 28) rfl))) (Or.inl (hw _ (List.mem_of_getElem? (i := 49) rfl))) (by decide) (t := (.array .long)) (t' := .int) (by decide) (by decide)))) ((((f77.other W81 (Or.inl nd1_05)).other W110 (Or.inl nd1_06)).other W133 (Or.inl nd1_08)).other W156 (Or.inr (slot_ne (Or.inl (hw _ (List.mem_of_getElem? (i := 30) rfl))) (Or.inl (hw _ (List.mem_of_getElem? (i := 49) rfl))) (by decide) (t := (.array .int)) (t' := .int) (by decide) (by decide)))) (((f103.other W110 (Or.inl nd1_06)).other W133 (Or.inl nd1_08)).other W156 (Or.inr (slot_ne (Or.inl (hw _ (List.mem_of_getElem? (i := 32) rfl))) (Or.inl (hw _ (List.mem_of_getElem? (i := 49) rfl))) (by decide) (t := (.array .int)) (t' := .int) (by decide) (by decide)))) (((((((hM.f_nexts.other W4 (Or.inl nd1_02)).other W28 (Or.inl nd1_03)).other W55 (Or.inl nd1_04)).other W81 (Or.inl nd1_05)).other W110 (Or.inl nd1_06)).other W133 (Or.inl nd1_08)).other W156 (Or.inr (slot_ne (Or.inl (hw _ (List.mem_of_getElem? (i := 34) rfl))) (Or.inl (hw _ (List.mem_of_getElem? (i := 49) rfl))) (by decide) (t := (.array .int)) (t' := .int) (by decide) (by decide)))) (((f106.other W110 (Or.inl nd1_06)).other W133 (Or.inl nd1_08)).other W156 (Or.inr (slot_ne (Or.inl (hw _ (List.mem_of_getElem? (i := 36) rfl))) (Or.inl (hw _ (List.mem_of_getElem? (i := 49) rfl))) (by decide) (t := (.array .int)) (t' := .int) (by decide) (by decide)))) F156 (((((((hM.f_length.other W4 (Or.inl nd1_02)).other W28 (Or.inl nd1_03)).other W55 (Or.inl nd1_04)).other W81 (Or.inl nd1_05)).other W110 (Or.inl nd1_06)).other W133 (Or.inl nd1_08)).other W156 (Or.inr (slot_ne (Or.inl (hw _ (List.mem_of_getElem? (i := 39) rfl))) (Or.inl (hw _ (List.mem_of_getElem? (i := 49) rfl))) (by decide) (t := .int) (t' := .int) (by decide) (by decide)))) (((((((hM.v_limits.other W4 nd1_12).other W28 nd1_13).other W55 nd1_14).other W81 nd1_15).other W110 nd1_16).other W133 nd1_18).other W156 (Ne.symm nd1_01)) ((((((V4.other W28 nd1_23).other W55 nd1_24).other W81 nd1_25).other W110 nd1_26).other W133 nd1_28).other W156 (Ne.symm nd1_02)) (((((V28.other W55 nd1_34).other W81 nd1_35).other W110 nd1_36).other W133 nd1_38).other W156 (Ne.symm nd1_03)) ((((V55.other W81 nd1_45).other W110 nd1_46).other W133 nd1_48).other W156 (Ne.symm nd1_04)) (((V81.other W110 nd1_56).other W133 nd1_58).other W156 (Ne.symm nd1_05)) ((V110.other W133 nd1_68).other W156 (Ne.symm nd1_06)) (((((((hM.v_nexts.other W4 (Ne.symm nd1_27)).other W28 (Ne.symm nd1_37)).other W55 (Ne.symm nd1_47)).other W81 (Ne.symm nd1_57)).other W110 (Ne.symm nd1_67)).other W133 nd1_78).other W156 (Ne.symm nd1_07)) (V133.other W156 (Ne.symm nd1_08))
    exact o_ireturn X156 hx hret hlk (hb hby d_prog_12_method_4_code_269) (by decide) (by decide) e156 ⟨B, rfl, N174, K175, hsub, hLL⟩
  have k81 : ∀ (T_ : State) (h_ : Heap) (Lc : List Loc) (B : o_A) (zT : Nat) (tl : Nat), Stand p l e (({ frames := 2, cells := 7, slots := 56, locals := 33 } : Room)) s m #[(.ref a1), (.int (n32 pl)), (.int (n32 lo)), (.int (n32 wd)), (.int (0 : Int32))] below meth c T_ Lc 1 8 → T_.heap = h_ → Fr n0 Lc → n0 ≤ h_.size → Keep h0 h_ [a1, A.l, A.p, A.lo, A.m, A.w, A.s, A.x, A.t] → (∀ y ∈ a1 :: B.all, y ∈ a1 :: A.all ∨ h0.size ≤ y) → (o_M Z h_ n0 a1 B C (o_cap C.P.length) zT tl (o_ts1 C.ts (o_ff C.ts wd))) → (o_cap (o_ts C.ts wd).length = zT) → ((o_ts C.ts wd).length = tl) → ((o_ff C.ts wd) < zT) → (zT < 2147483648) → Goes p e below s (fun v h L => ∃ A' : o_A, v = some (.int (n32 C.P.length)) ∧ Fr n0 L ∧ Keep h0 h (a1 :: A.all) ∧ (∀ y ∈ a1 :: A'.all, y ∈ a1 :: A.all ∨ h0.size ≤ y) ∧ o_L Z h n0 a1 A' (o_add C pl lo wd)) (({ frames := 2, cells := 7, slots := 56, locals := 33 } : Room)).cells (({ frames := 2, cells := 7, slots := 56, locals := 33 } : Room)).slots (T_.setTop (mkF m 81 #[.val (.ref a1), .val (.int (n32 pl)), .val (.int (n32 lo)), .val (.int (n32 wd)), .val (.int (n32 (o_ff C.ts wd))), .unset] [])) := by
    intro T_ h_ Lc B zT tl X_ e_ N_ zz_ K_ hsub hM hzT htl hJz bz
    refine o_aloadN X_ hx (hb hby d_prog_12_method_4_code_81) (v := (.ref a1)) rfl rfl (n := 82) rfl ?_
    refine o_getfield X_ hx hZ hown (host := "") (Or.inl (hw _ (List.mem_of_getElem? (i := 48) rfl))) Via.refl e_ hM.f_pieces (hb hby d_prog_12_method_4_code_82) (n := 85) rfl ?_
    intro T176 X176 e176
    refine o_aloadN X176 hx (hb hby d_prog_12_method_4_code_85) (v := (.ref a1)) rfl rfl (n := 86) rfl ?_
    refine o_getfield X176 hx hZ hown (host := "") (Or.inl (hw _ (List.mem_of_getElem? (i := 23) rfl))) Via.refl e176 hM.f_places (hb hby d_prog_12_method_4_code_86) (n := 89) rfl ?_
    intro T177 X177 e177
    refine o_arraylength X177 hx hZ e177 hM.v_places (hb hby d_prog_12_method_4_code_89) (n := 90) rfl ?_
    by_cases hc90 : (n32 C.P.length) = (n32 (o_cap C.P.length))
    · refine o_icmpN X177 hx (hb hby d_prog_12_method_4_code_90) (XT.ii_ne_f hc90) (n := 93) rfl ?_
      obtain ⟨gP1, gP2, gP3, gP4, gP5, gP6, gP7, gP8⟩ := o_gr hn hc90
      obtain ⟨nd178_01, nd178_02, nd178_03, nd178_04, nd178_05, nd178_06, nd178_07, nd178_08, nd178_12, nd178_13, nd178_14, nd178_15, nd178_16, nd178_17, nd178_18, nd178_23, nd178_24, nd178_25, nd178_26, nd178_27, nd178_28, nd178_34, nd178_35, nd178_36, nd178_37, nd178_38, nd178_45, nd178_46, nd178_47, nd178_48, nd178_56, nd178_57, nd178_58, nd178_67, nd178_68, nd178_78⟩ := o_nd36 hM.nd
      refine o_iconst X177 hx (hb hby d_prog_12_method_4_code_93) (v := (1 : Int32)) rfl (n := 94) rfl ?_
      refine o_iconst X177 hx (hb hby d_prog_12_method_4_code_94) (v := (2 : Int32)) rfl (n := 95) rfl ?_
      refine o_aloadN X177 hx (hb hby d_prog_12_method_4_code_95) (v := (.ref a1)) rfl rfl (n := 96) rfl ?_
      refine o_getfield X177 hx hZ hown (host := "") (Or.inl (hw _ (List.mem_of_getElem? (i := 48) rfl))) Via.refl e177 hM.f_pieces (hb hby d_prog_12_method_4_code_96) (n := 99) rfl ?_
      intro T179 X179 e179
      refine o_imul X179 hx (hb hby d_prog_12_method_4_code_99) (v := (n32 (2 * C.P.length))) (o_n2 _) (n := 100) rfl ?_
      refine o_callS X179 hx hZ hown (hw _ (List.mem_of_getElem? (i := 40) rfl)) (hw _ (List.mem_of_getElem? (i := 41) rfl)) (hw _ (List.mem_of_getElem? (i := 42) rfl)) (hw _ (List.mem_of_getElem? (i := 43) rfl)) (by decide) e179 (argsL := [(.int (1 : Int32)), (.int (n32 (2 * C.P.length)))]) (rest := []) ((o_mx1 (a := 2 * C.P.length) gP6 gP7) ▸ c_max l Z a0 hw (1 : Int32) (n32 (2 * C.P.length)) h_) 0 (by decide) (by decide) (by decide) (by decide) (by rw [hml]; rfl) (lenOf o_pd3 rfl) rfl (Nat.le_of_eq rfl) (hb hby d_prog_12_method_4_code_100) (n := 103) rfl ?_
      intro v180 T180 L180 X180 q180
      obtain ⟨rfl, e180, rfl⟩ := q180
      have N181 := Fr.app N_ (Fr.nil n0)
      show Goes p e below s _ _ _ (T180.setTop (mkF m 103 #[.val (.ref a1), .val (.int (n32 pl)), .val (.int (n32 lo)), .val (.int (n32 wd)), .val (.int (n32 (o_ff C.ts wd))), .unset] [(.int (n32 (2 * C.P.length)))]))
      refine o_istore X180 hx (hb hby d_prog_12_method_4_code_103) (Ls' := #[.val (.ref a1), .val (.int (n32 pl)), .val (.int (n32 lo)), .val (.int (n32 wd)), .val (.int (n32 (o_ff C.ts wd))), .val (.int (n32 (2 * C.P.length)))]) rfl (n := 105) rfl ?_
      refine o_aloadN X180 hx (hb hby d_prog_12_method_4_code_105) (v := (.ref a1)) rfl rfl (n := 106) rfl ?_
      refine o_aloadN X180 hx (hb hby d_prog_12_method_4_code_106) (v := (.ref a1)) rfl rfl (n := 107) rfl ?_
      refine o_getfield X180 hx hZ hown (host := "") (Or.inl (hw _ (List.mem_of_getElem? (i := 23) rfl))) Via.refl e180 hM.f_places (hb hby d_prog_12_method_4_code_107) (n := 110) rfl ?_
      intro T182 X182 e182
      refine o_iload X182 hx (hb hby d_prog_12_method_4_code_110) (v := (n32 (2 * C.P.length))) rfl (n := 112) rfl ?_
      refine o_callS X182 hx hZ hown (hw _ (List.mem_of_getElem? (i := 79) rfl)) (hw _ (List.mem_of_getElem? (i := 80) rfl)) (hw _ (List.mem_of_getElem? (i := 12) rfl)) (hw _ (List.mem_of_getElem? (i := 81) rfl)) (by decide) e182 (argsL := [(.ref B.p), (.int (n32 (2 * C.P.length)))]) (rest := [(.ref a1)]) (c_cpI l Z a0 hw B.p B.kp (C.P.map fun (q : o_P) => .int (n32 q.pl)) (o_cap C.P.length) (2 * C.P.length) h_ n0 zz_ hM.v_places gP3 gP4 (by rw [List.length_map]; exact lP)) 1 (by decide) (by decide) (by decide) (by decide) (by rw [hml]; rfl) (lenOf o_pd4 rfl) rfl (Nat.le_of_eq rfl) (hb hby d_prog_12_method_4_code_112) (n := 115) rfl ?_
      intro v183 T183 L183 X183 q183
      obtain ⟨n1_183, kn_183, rfl, Nq183, K183, sq183_n1, o183_0⟩ := q183
      have N184 := Fr.app N181 Nq183
      have ne185 : a1 ≠ n1_183 := Nat.ne_of_lt (Nat.lt_of_lt_of_le hM.E.lt sq183_n1)
      have ne186 : B.l ≠ n1_183 := Nat.ne_of_lt (Nat.lt_of_lt_of_le hM.v_limits.lt sq183_n1)
      have ne187 : B.p ≠ n1_183 := Nat.ne_of_lt (Nat.lt_of_lt_of_le hM.v_places.lt sq183_n1)
      have ne188 : B.lo ≠ n1_183 := Nat.ne_of_lt (Nat.lt_of_lt_of_le hM.v_lows.lt sq183_n1)
      have ne189 : B.m ≠ n1_183 := Nat.ne_of_lt (Nat.lt_of_lt_of_le hM.v_masks.lt sq183_n1)
      have ne190 : B.w ≠ n1_183 := Nat.ne_of_lt (Nat.lt_of_lt_of_le hM.v_words.lt sq183_n1)
      have ne191 : B.s ≠ n1_183 := Nat.ne_of_lt (Nat.lt_of_lt_of_le hM.v_shifts.lt sq183_n1)
      have ne192 : B.x ≠ n1_183 := Nat.ne_of_lt (Nat.lt_of_lt_of_le hM.v_nexts.lt sq183_n1)
      have ne193 : B.t ≠ n1_183 := Nat.ne_of_lt (Nat.lt_of_lt_of_le hM.v_tops.lt sq183_n1)
      have gg183_n1 : n0 ≤ n1_183 := Nat.le_trans zz_ sq183_n1
      have sz183_n1 : h0.size ≤ n1_183 := Nat.le_trans K_.1 sq183_n1
      have zz183 : n0 ≤ T183.heap.size := Nat.le_trans zz_ K183.1
      have K213 : Keep h0 T183.heap [a1, A.l, A.p, A.lo, A.m, A.w, A.s, A.x, A.t] := K_.trans K183 all0
      show Goes p e below s _ _ _ (T183.setTop (mkF m 115 #[.val (.ref a1), .val (.int (n32 pl)), .val (.int (n32 lo)), .val (.int (n32 wd)), .val (.int (n32 (o_ff C.ts wd))), .val (.int (n32 (2 * C.P.length)))] [(.ref n1_183), (.ref a1)]))
      refine o_putfield X183 hx hZ hown (host := "") (Or.inl (hw _ (List.mem_of_getElem? (i := 23) rfl))) Via.refl (rfl : T183.heap = T183.heap) (hM.f_places.keep K183 nin0) (hM.E.keep K183) (Or.inl (hw _ (List.mem_of_getElem? (i := 24) rfl))) (hw _ (List.mem_of_getElem? (i := 1) rfl)) (ty := (.array .int)) (by decide) rfl rfl (hb hby d_prog_12_method_4_code_115) (n := 118) rfl ?_
      intro T214 h214 X214 e214 W214 F214 E_214
      have zz214 : n0 ≤ h214.size := Nat.le_trans zz183 (Nat.le_of_eq W214.size.symm)
      have N233 := Fr.snoc X214 N184 (hM.ge _ (List.mem_of_getElem? (i := 0) rfl))
      have K234 : Keep h0 h214 [a1, A.l, A.p, A.lo, A.m, A.w, A.s, A.x, A.t] := K213.wr W214 (hsub _ (List.mem_of_getElem? (i := 0) rfl))
      refine o_aloadN X214 hx (hb hby d_prog_12_method_4_code_118) (v := (.ref a1)) rfl rfl (n := 119) rfl ?_
      refine o_aloadN X214 hx (hb hby d_prog_12_method_4_code_119) (v := (.ref a1)) rfl rfl (n := 120) rfl ?_
      have f235 := ((hM.f_lows.keep K183 nin0).other W214 (Or.inr (slot_ne (Or.inl (hw _ (List.mem_of_getElem? (i := 26) rfl))) (Or.inl (hw _ (List.mem_of_getElem? (i := 24) rfl))) (by decide) (t := (.array .int)) (t' := (.array .int)) (by decide) (by decide))))
      refine o_getfield X214 hx hZ hown (host := "") (Or.inl (hw _ (List.mem_of_getElem? (i := 25) rfl))) Via.refl e214 f235 (hb hby d_prog_12_method_4_code_120) (n := 123) rfl ?_
      intro T236 X236 e236
      refine o_iload X236 hx (hb hby d_prog_12_method_4_code_123) (v := (n32 (2 * C.P.length))) rfl (n := 125) rfl ?_
      refine o_callS X236 hx hZ hown (hw _ (List.mem_of_getElem? (i := 79) rfl)) (hw _ (List.mem_of_getElem? (i := 80) rfl)) (hw _ (List.mem_of_getElem? (i := 12) rfl)) (hw _ (List.mem_of_getElem? (i := 81) rfl)) (by decide) e236 (argsL := [(.ref B.lo), (.int (n32 (2 * C.P.length)))]) (rest := [(.ref a1)]) (c_cpI l Z a0 hw B.lo B.ko (C.P.map fun (q : o_P) => .int (n32 q.lo)) (o_cap C.P.length) (2 * C.P.length) h214 n0 zz214 ((hM.v_lows.keep K183 nin0).other W214 (Ne.symm nd178_03)) gP3 gP4 (by rw [List.length_map]; exact lP)) 1 (by decide) (by decide) (by decide) (by decide) (by rw [hml]; rfl) (lenOf o_pd4 rfl) rfl (Nat.le_of_eq rfl) (hb hby d_prog_12_method_4_code_125) (n := 128) rfl ?_
      intro v237 T237 L237 X237 q237
      obtain ⟨n1_237, kn_237, rfl, Nq237, K237, sq237_n1, o237_0⟩ := q237
      have N238 := Fr.app N233 Nq237
      have ne239 : a1 ≠ n1_237 := Nat.ne_of_lt (Nat.lt_of_lt_of_le E_214.lt sq237_n1)
      have ne240 : B.l ≠ n1_237 := Nat.ne_of_lt (Nat.lt_of_lt_of_le ((hM.v_limits.keep K183 nin0).other W214 (Ne.symm nd178_01)).lt sq237_n1)
      have ne241 : B.p ≠ n1_237 := Nat.ne_of_lt (Nat.lt_of_lt_of_le ((hM.v_places.keep K183 nin0).other W214 (Ne.symm nd178_02)).lt sq237_n1)
      have ne242 : B.lo ≠ n1_237 := Nat.ne_of_lt (Nat.lt_of_lt_of_le ((hM.v_lows.keep K183 nin0).other W214 (Ne.symm nd178_03)).lt sq237_n1)
      have ne243 : B.m ≠ n1_237 := Nat.ne_of_lt (Nat.lt_of_lt_of_le ((hM.v_masks.keep K183 nin0).other W214 (Ne.symm nd178_04)).lt sq237_n1)
      have ne244 : B.w ≠ n1_237 := Nat.ne_of_lt (Nat.lt_of_lt_of_le ((hM.v_words.keep K183 nin0).other W214 (Ne.symm nd178_05)).lt sq237_n1)
      have ne245 : B.s ≠ n1_237 := Nat.ne_of_lt (Nat.lt_of_lt_of_le ((hM.v_shifts.keep K183 nin0).other W214 (Ne.symm nd178_06)).lt sq237_n1)
      have ne246 : B.x ≠ n1_237 := Nat.ne_of_lt (Nat.lt_of_lt_of_le ((hM.v_nexts.keep K183 nin0).other W214 (Ne.symm nd178_07)).lt sq237_n1)
      have ne247 : B.t ≠ n1_237 := Nat.ne_of_lt (Nat.lt_of_lt_of_le ((hM.v_tops.keep K183 nin0).other W214 (Ne.symm nd178_08)).lt sq237_n1)
      have ne248 : n1_183 ≠ n1_237 := Nat.ne_of_lt (Nat.lt_of_lt_of_le (o183_0.other W214 (Ne.symm ne185)).lt sq237_n1)
      have gg237_n1 : n0 ≤ n1_237 := Nat.le_trans zz214 sq237_n1
      have sz237_n1 : h0.size ≤ n1_237 := Nat.le_trans K234.1 sq237_n1
      have zz237 : n0 ≤ T237.heap.size := Nat.le_trans zz214 K237.1
      have K269 : Keep h0 T237.heap [a1, A.l, A.p, A.lo, A.m, A.w, A.s, A.x, A.t] := K234.trans K237 all0
      show Goes p e below s _ _ _ (T237.setTop (mkF m 128 #[.val (.ref a1), .val (.int (n32 pl)), .val (.int (n32 lo)), .val (.int (n32 wd)), .val (.int (n32 (o_ff C.ts wd))), .val (.int (n32 (2 * C.P.length)))] [(.ref n1_237), (.ref a1)]))
      refine o_putfield X237 hx hZ hown (host := "") (Or.inl (hw _ (List.mem_of_getElem? (i := 25) rfl))) Via.refl (rfl : T237.heap = T237.heap) (f235.keep K237 nin0) (E_214.keep K237) (Or.inl (hw _ (List.mem_of_getElem? (i := 26) rfl))) (hw _ (List.mem_of_getElem? (i := 1) rfl)) (ty := (.array .int)) (by decide) rfl rfl (hb hby d_prog_12_method_4_code_128) (n := 131) rfl ?_
      intro T270 h270 X270 e270 W270 F270 E_270
      have zz270 : n0 ≤ h270.size := Nat.le_trans zz237 (Nat.le_of_eq W270.size.symm)
      have N290 := Fr.snoc X270 N238 (hM.ge _ (List.mem_of_getElem? (i := 0) rfl))
      have K291 : Keep h0 h270 [a1, A.l, A.p, A.lo, A.m, A.w, A.s, A.x, A.t] := K269.wr W270 (hsub _ (List.mem_of_getElem? (i := 0) rfl))
      refine o_aloadN X270 hx (hb hby d_prog_12_method_4_code_131) (v := (.ref a1)) rfl rfl (n := 132) rfl ?_
      refine o_aloadN X270 hx (hb hby d_prog_12_method_4_code_132) (v := (.ref a1)) rfl rfl (n := 133) rfl ?_
      have f292 := ((((hM.f_masks.keep K183 nin0).other W214 (Or.inr (slot_ne (Or.inl (hw _ (List.mem_of_getElem? (i := 28) rfl))) (Or.inl (hw _ (List.mem_of_getElem? (i := 24) rfl))) (by decide) (t := (.array .long)) (t' := (.array .int)) (by decide) (by decide)))).keep K237 nin0).other W270 (Or.inr (slot_ne (Or.inl (hw _ (List.mem_of_getElem? (i := 28) rfl))) (Or.inl (hw _ (List.mem_of_getElem? (i := 26) rfl))) (by decide) (t := (.array .long)) (t' := (.array .int)) (by decide) (by decide))))
      refine o_getfield X270 hx hZ hown (host := "") (Or.inl (hw _ (List.mem_of_getElem? (i := 27) rfl))) Via.refl e270 f292 (hb hby d_prog_12_method_4_code_133) (n := 136) rfl ?_
      intro T293 X293 e293
      refine o_iload X293 hx (hb hby d_prog_12_method_4_code_136) (v := (n32 (2 * C.P.length))) rfl (n := 138) rfl ?_
      refine o_callS X293 hx hZ hown (hw _ (List.mem_of_getElem? (i := 87) rfl)) (hw _ (List.mem_of_getElem? (i := 88) rfl)) (hw _ (List.mem_of_getElem? (i := 12) rfl)) (hw _ (List.mem_of_getElem? (i := 89) rfl)) (by decide) e293 (argsL := [(.ref B.m), (.int (n32 (2 * C.P.length)))]) (rest := [(.ref a1)]) (c_cpJ l Z a0 hw B.m B.km (C.P.map fun (q : o_P) => .long (o_mk (n32 q.wd))) (o_cap C.P.length) (2 * C.P.length) h270 n0 zz270 ((((hM.v_masks.keep K183 nin0).other W214 (Ne.symm nd178_04)).keep K237 nin0).other W270 (Ne.symm nd178_04)) gP3 gP4 (by rw [List.length_map]; exact lP)) 1 (by decide) (by decide) (by decide) (by decide) (by rw [hml]; rfl) (lenOf o_pd5 rfl) rfl (Nat.le_of_eq rfl) (hb hby d_prog_12_method_4_code_138) (n := 141) rfl ?_
      intro v294 T294 L294 X294 q294
      obtain ⟨n1_294, kn_294, rfl, Nq294, K294, sq294_n1, o294_0⟩ := q294
      have N295 := Fr.app N290 Nq294
      have ne296 : a1 ≠ n1_294 := Nat.ne_of_lt (Nat.lt_of_lt_of_le E_270.lt sq294_n1)
      have ne297 : B.l ≠ n1_294 := Nat.ne_of_lt (Nat.lt_of_lt_of_le ((((hM.v_limits.keep K183 nin0).other W214 (Ne.symm nd178_01)).keep K237 nin0).other W270 (Ne.symm nd178_01)).lt sq294_n1)
      have ne298 : B.p ≠ n1_294 := Nat.ne_of_lt (Nat.lt_of_lt_of_le ((((hM.v_places.keep K183 nin0).other W214 (Ne.symm nd178_02)).keep K237 nin0).other W270 (Ne.symm nd178_02)).lt sq294_n1)
      have ne299 : B.lo ≠ n1_294 := Nat.ne_of_lt (Nat.lt_of_lt_of_le ((((hM.v_lows.keep K183 nin0).other W214 (Ne.symm nd178_03)).keep K237 nin0).other W270 (Ne.symm nd178_03)).lt sq294_n1)
      have ne300 : B.m ≠ n1_294 := Nat.ne_of_lt (Nat.lt_of_lt_of_le ((((hM.v_masks.keep K183 nin0).other W214 (Ne.symm nd178_04)).keep K237 nin0).other W270 (Ne.symm nd178_04)).lt sq294_n1)
      have ne301 : B.w ≠ n1_294 := Nat.ne_of_lt (Nat.lt_of_lt_of_le ((((hM.v_words.keep K183 nin0).other W214 (Ne.symm nd178_05)).keep K237 nin0).other W270 (Ne.symm nd178_05)).lt sq294_n1)
      have ne302 : B.s ≠ n1_294 := Nat.ne_of_lt (Nat.lt_of_lt_of_le ((((hM.v_shifts.keep K183 nin0).other W214 (Ne.symm nd178_06)).keep K237 nin0).other W270 (Ne.symm nd178_06)).lt sq294_n1)
      have ne303 : B.x ≠ n1_294 := Nat.ne_of_lt (Nat.lt_of_lt_of_le ((((hM.v_nexts.keep K183 nin0).other W214 (Ne.symm nd178_07)).keep K237 nin0).other W270 (Ne.symm nd178_07)).lt sq294_n1)
      have ne304 : B.t ≠ n1_294 := Nat.ne_of_lt (Nat.lt_of_lt_of_le ((((hM.v_tops.keep K183 nin0).other W214 (Ne.symm nd178_08)).keep K237 nin0).other W270 (Ne.symm nd178_08)).lt sq294_n1)
      have ne305 : n1_183 ≠ n1_294 := Nat.ne_of_lt (Nat.lt_of_lt_of_le (((o183_0.other W214 (Ne.symm ne185)).keep K237 nin0).other W270 (Ne.symm ne185)).lt sq294_n1)
      have ne306 : n1_237 ≠ n1_294 := Nat.ne_of_lt (Nat.lt_of_lt_of_le (o237_0.other W270 (Ne.symm ne239)).lt sq294_n1)
      have gg294_n1 : n0 ≤ n1_294 := Nat.le_trans zz270 sq294_n1
      have sz294_n1 : h0.size ≤ n1_294 := Nat.le_trans K291.1 sq294_n1
      have zz294 : n0 ≤ T294.heap.size := Nat.le_trans zz270 K294.1
      have K328 : Keep h0 T294.heap [a1, A.l, A.p, A.lo, A.m, A.w, A.s, A.x, A.t] := K291.trans K294 all0
      show Goes p e below s _ _ _ (T294.setTop (mkF m 141 #[.val (.ref a1), .val (.int (n32 pl)), .val (.int (n32 lo)), .val (.int (n32 wd)), .val (.int (n32 (o_ff C.ts wd))), .val (.int (n32 (2 * C.P.length)))] [(.ref n1_294), (.ref a1)]))
      refine o_putfield X294 hx hZ hown (host := "") (Or.inl (hw _ (List.mem_of_getElem? (i := 27) rfl))) Via.refl (rfl : T294.heap = T294.heap) (f292.keep K294 nin0) (E_270.keep K294) (Or.inl (hw _ (List.mem_of_getElem? (i := 28) rfl))) (hw _ (List.mem_of_getElem? (i := 1) rfl)) (ty := (.array .long)) (by decide) rfl rfl (hb hby d_prog_12_method_4_code_141) (n := 144) rfl ?_
      intro T329 h329 X329 e329 W329 F329 E_329
      have zz329 : n0 ≤ h329.size := Nat.le_trans zz294 (Nat.le_of_eq W329.size.symm)
      have N350 := Fr.snoc X329 N295 (hM.ge _ (List.mem_of_getElem? (i := 0) rfl))
      have K351 : Keep h0 h329 [a1, A.l, A.p, A.lo, A.m, A.w, A.s, A.x, A.t] := K328.wr W329 (hsub _ (List.mem_of_getElem? (i := 0) rfl))
      refine o_aloadN X329 hx (hb hby d_prog_12_method_4_code_144) (v := (.ref a1)) rfl rfl (n := 145) rfl ?_
      refine o_aloadN X329 hx (hb hby d_prog_12_method_4_code_145) (v := (.ref a1)) rfl rfl (n := 146) rfl ?_
      have f352 := ((((((hM.f_words.keep K183 nin0).other W214 (Or.inr (slot_ne (Or.inl (hw _ (List.mem_of_getElem? (i := 30) rfl))) (Or.inl (hw _ (List.mem_of_getElem? (i := 24) rfl))) (by decide) (t := (.array .int)) (t' := (.array .int)) (by decide) (by decide)))).keep K237 nin0).other W270 (Or.inr (slot_ne (Or.inl (hw _ (List.mem_of_getElem? (i := 30) rfl))) (Or.inl (hw _ (List.mem_of_getElem? (i := 26) rfl))) (by decide) (t := (.array .int)) (t' := (.array .int)) (by decide) (by decide)))).keep K294 nin0).other W329 (Or.inr (slot_ne (Or.inl (hw _ (List.mem_of_getElem? (i := 30) rfl))) (Or.inl (hw _ (List.mem_of_getElem? (i := 28) rfl))) (by decide) (t := (.array .int)) (t' := (.array .long)) (by decide) (by decide))))
      refine o_getfield X329 hx hZ hown (host := "") (Or.inl (hw _ (List.mem_of_getElem? (i := 29) rfl))) Via.refl e329 f352 (hb hby d_prog_12_method_4_code_146) (n := 149) rfl ?_
      intro T353 X353 e353
      refine o_iload X353 hx (hb hby d_prog_12_method_4_code_149) (v := (n32 (2 * C.P.length))) rfl (n := 151) rfl ?_
      refine o_callS X353 hx hZ hown (hw _ (List.mem_of_getElem? (i := 79) rfl)) (hw _ (List.mem_of_getElem? (i := 80) rfl)) (hw _ (List.mem_of_getElem? (i := 12) rfl)) (hw _ (List.mem_of_getElem? (i := 81) rfl)) (by decide) e353 (argsL := [(.ref B.w), (.int (n32 (2 * C.P.length)))]) (rest := [(.ref a1)]) (c_cpI l Z a0 hw B.w B.kw (C.P.map fun (q : o_P) => .int (n32 q.wo)) (o_cap C.P.length) (2 * C.P.length) h329 n0 zz329 ((((((hM.v_words.keep K183 nin0).other W214 (Ne.symm nd178_05)).keep K237 nin0).other W270 (Ne.symm nd178_05)).keep K294 nin0).other W329 (Ne.symm nd178_05)) gP3 gP4 (by rw [List.length_map]; exact lP)) 1 (by decide) (by decide) (by decide) (by decide) (by rw [hml]; rfl) (lenOf o_pd4 rfl) rfl (Nat.le_of_eq rfl) (hb hby d_prog_12_method_4_code_151) (n := 154) rfl ?_
      intro v354 T354 L354 X354 q354
      obtain ⟨n1_354, kn_354, rfl, Nq354, K354, sq354_n1, o354_0⟩ := q354
      have N355 := Fr.app N350 Nq354
      have ne356 : a1 ≠ n1_354 := Nat.ne_of_lt (Nat.lt_of_lt_of_le E_329.lt sq354_n1)
      have ne357 : B.l ≠ n1_354 := Nat.ne_of_lt (Nat.lt_of_lt_of_le ((((((hM.v_limits.keep K183 nin0).other W214 (Ne.symm nd178_01)).keep K237 nin0).other W270 (Ne.symm nd178_01)).keep K294 nin0).other W329 (Ne.symm nd178_01)).lt sq354_n1)
      have ne358 : B.p ≠ n1_354 := Nat.ne_of_lt (Nat.lt_of_lt_of_le ((((((hM.v_places.keep K183 nin0).other W214 (Ne.symm nd178_02)).keep K237 nin0).other W270 (Ne.symm nd178_02)).keep K294 nin0).other W329 (Ne.symm nd178_02)).lt sq354_n1)
      have ne359 : B.lo ≠ n1_354 := Nat.ne_of_lt (Nat.lt_of_lt_of_le ((((((hM.v_lows.keep K183 nin0).other W214 (Ne.symm nd178_03)).keep K237 nin0).other W270 (Ne.symm nd178_03)).keep K294 nin0).other W329 (Ne.symm nd178_03)).lt sq354_n1)
      have ne360 : B.m ≠ n1_354 := Nat.ne_of_lt (Nat.lt_of_lt_of_le ((((((hM.v_masks.keep K183 nin0).other W214 (Ne.symm nd178_04)).keep K237 nin0).other W270 (Ne.symm nd178_04)).keep K294 nin0).other W329 (Ne.symm nd178_04)).lt sq354_n1)
      have ne361 : B.w ≠ n1_354 := Nat.ne_of_lt (Nat.lt_of_lt_of_le ((((((hM.v_words.keep K183 nin0).other W214 (Ne.symm nd178_05)).keep K237 nin0).other W270 (Ne.symm nd178_05)).keep K294 nin0).other W329 (Ne.symm nd178_05)).lt sq354_n1)
      have ne362 : B.s ≠ n1_354 := Nat.ne_of_lt (Nat.lt_of_lt_of_le ((((((hM.v_shifts.keep K183 nin0).other W214 (Ne.symm nd178_06)).keep K237 nin0).other W270 (Ne.symm nd178_06)).keep K294 nin0).other W329 (Ne.symm nd178_06)).lt sq354_n1)
      have ne363 : B.x ≠ n1_354 := Nat.ne_of_lt (Nat.lt_of_lt_of_le ((((((hM.v_nexts.keep K183 nin0).other W214 (Ne.symm nd178_07)).keep K237 nin0).other W270 (Ne.symm nd178_07)).keep K294 nin0).other W329 (Ne.symm nd178_07)).lt sq354_n1)
      have ne364 : B.t ≠ n1_354 := Nat.ne_of_lt (Nat.lt_of_lt_of_le ((((((hM.v_tops.keep K183 nin0).other W214 (Ne.symm nd178_08)).keep K237 nin0).other W270 (Ne.symm nd178_08)).keep K294 nin0).other W329 (Ne.symm nd178_08)).lt sq354_n1)
      have ne365 : n1_183 ≠ n1_354 := Nat.ne_of_lt (Nat.lt_of_lt_of_le (((((o183_0.other W214 (Ne.symm ne185)).keep K237 nin0).other W270 (Ne.symm ne185)).keep K294 nin0).other W329 (Ne.symm ne185)).lt sq354_n1)
      have ne366 : n1_237 ≠ n1_354 := Nat.ne_of_lt (Nat.lt_of_lt_of_le (((o237_0.other W270 (Ne.symm ne239)).keep K294 nin0).other W329 (Ne.symm ne239)).lt sq354_n1)
      have ne367 : n1_294 ≠ n1_354 := Nat.ne_of_lt (Nat.lt_of_lt_of_le (o294_0.other W329 (Ne.symm ne296)).lt sq354_n1)
      have gg354_n1 : n0 ≤ n1_354 := Nat.le_trans zz329 sq354_n1
      have sz354_n1 : h0.size ≤ n1_354 := Nat.le_trans K351.1 sq354_n1
      have zz354 : n0 ≤ T354.heap.size := Nat.le_trans zz329 K354.1
      have K390 : Keep h0 T354.heap [a1, A.l, A.p, A.lo, A.m, A.w, A.s, A.x, A.t] := K351.trans K354 all0
      show Goes p e below s _ _ _ (T354.setTop (mkF m 154 #[.val (.ref a1), .val (.int (n32 pl)), .val (.int (n32 lo)), .val (.int (n32 wd)), .val (.int (n32 (o_ff C.ts wd))), .val (.int (n32 (2 * C.P.length)))] [(.ref n1_354), (.ref a1)]))
      refine o_putfield X354 hx hZ hown (host := "") (Or.inl (hw _ (List.mem_of_getElem? (i := 29) rfl))) Via.refl (rfl : T354.heap = T354.heap) (f352.keep K354 nin0) (E_329.keep K354) (Or.inl (hw _ (List.mem_of_getElem? (i := 30) rfl))) (hw _ (List.mem_of_getElem? (i := 1) rfl)) (ty := (.array .int)) (by decide) rfl rfl (hb hby d_prog_12_method_4_code_154) (n := 157) rfl ?_
      intro T391 h391 X391 e391 W391 F391 E_391
      have zz391 : n0 ≤ h391.size := Nat.le_trans zz354 (Nat.le_of_eq W391.size.symm)
      have N413 := Fr.snoc X391 N355 (hM.ge _ (List.mem_of_getElem? (i := 0) rfl))
      have K414 : Keep h0 h391 [a1, A.l, A.p, A.lo, A.m, A.w, A.s, A.x, A.t] := K390.wr W391 (hsub _ (List.mem_of_getElem? (i := 0) rfl))
      refine o_aloadN X391 hx (hb hby d_prog_12_method_4_code_157) (v := (.ref a1)) rfl rfl (n := 158) rfl ?_
      refine o_aloadN X391 hx (hb hby d_prog_12_method_4_code_158) (v := (.ref a1)) rfl rfl (n := 159) rfl ?_
      have f415 := ((((((((hM.f_shifts.keep K183 nin0).other W214 (Or.inr (slot_ne (Or.inl (hw _ (List.mem_of_getElem? (i := 32) rfl))) (Or.inl (hw _ (List.mem_of_getElem? (i := 24) rfl))) (by decide) (t := (.array .int)) (t' := (.array .int)) (by decide) (by decide)))).keep K237 nin0).other W270 (Or.inr (slot_ne (Or.inl (hw _ (List.mem_of_getElem? (i := 32) rfl))) (Or.inl (hw _ (List.mem_of_getElem? (i := 26) rfl))) (by decide) (t := (.array .int)) (t' := (.array .int)) (by decide) (by decide)))).keep K294 nin0).other W329 (Or.inr (slot_ne (Or.inl (hw _ (List.mem_of_getElem? (i := 32) rfl))) (Or.inl (hw _ (List.mem_of_getElem? (i := 28) rfl))) (by decide) (t := (.array .int)) (t' := (.array .long)) (by decide) (by decide)))).keep K354 nin0).other W391 (Or.inr (slot_ne (Or.inl (hw _ (List.mem_of_getElem? (i := 32) rfl))) (Or.inl (hw _ (List.mem_of_getElem? (i := 30) rfl))) (by decide) (t := (.array .int)) (t' := (.array .int)) (by decide) (by decide))))
      refine o_getfield X391 hx hZ hown (host := "") (Or.inl (hw _ (List.mem_of_getElem? (i := 31) rfl))) Via.refl e391 f415 (hb hby d_prog_12_method_4_code_159) (n := 162) rfl ?_
      intro T416 X416 e416
      refine o_iload X416 hx (hb hby d_prog_12_method_4_code_162) (v := (n32 (2 * C.P.length))) rfl (n := 164) rfl ?_
      refine o_callS X416 hx hZ hown (hw _ (List.mem_of_getElem? (i := 79) rfl)) (hw _ (List.mem_of_getElem? (i := 80) rfl)) (hw _ (List.mem_of_getElem? (i := 12) rfl)) (hw _ (List.mem_of_getElem? (i := 81) rfl)) (by decide) e416 (argsL := [(.ref B.s), (.int (n32 (2 * C.P.length)))]) (rest := [(.ref a1)]) (c_cpI l Z a0 hw B.s B.ks (C.P.map fun (q : o_P) => .int (n32 q.sh)) (o_cap C.P.length) (2 * C.P.length) h391 n0 zz391 ((((((((hM.v_shifts.keep K183 nin0).other W214 (Ne.symm nd178_06)).keep K237 nin0).other W270 (Ne.symm nd178_06)).keep K294 nin0).other W329 (Ne.symm nd178_06)).keep K354 nin0).other W391 (Ne.symm nd178_06)) gP3 gP4 (by rw [List.length_map]; exact lP)) 1 (by decide) (by decide) (by decide) (by decide) (by rw [hml]; rfl) (lenOf o_pd4 rfl) rfl (Nat.le_of_eq rfl) (hb hby d_prog_12_method_4_code_164) (n := 167) rfl ?_
      intro v417 T417 L417 X417 q417
      obtain ⟨n1_417, kn_417, rfl, Nq417, K417, sq417_n1, o417_0⟩ := q417
      have N418 := Fr.app N413 Nq417
      have ne419 : a1 ≠ n1_417 := Nat.ne_of_lt (Nat.lt_of_lt_of_le E_391.lt sq417_n1)
      have ne420 : B.l ≠ n1_417 := Nat.ne_of_lt (Nat.lt_of_lt_of_le ((((((((hM.v_limits.keep K183 nin0).other W214 (Ne.symm nd178_01)).keep K237 nin0).other W270 (Ne.symm nd178_01)).keep K294 nin0).other W329 (Ne.symm nd178_01)).keep K354 nin0).other W391 (Ne.symm nd178_01)).lt sq417_n1)
      have ne421 : B.p ≠ n1_417 := Nat.ne_of_lt (Nat.lt_of_lt_of_le ((((((((hM.v_places.keep K183 nin0).other W214 (Ne.symm nd178_02)).keep K237 nin0).other W270 (Ne.symm nd178_02)).keep K294 nin0).other W329 (Ne.symm nd178_02)).keep K354 nin0).other W391 (Ne.symm nd178_02)).lt sq417_n1)
      have ne422 : B.lo ≠ n1_417 := Nat.ne_of_lt (Nat.lt_of_lt_of_le ((((((((hM.v_lows.keep K183 nin0).other W214 (Ne.symm nd178_03)).keep K237 nin0).other W270 (Ne.symm nd178_03)).keep K294 nin0).other W329 (Ne.symm nd178_03)).keep K354 nin0).other W391 (Ne.symm nd178_03)).lt sq417_n1)
      have ne423 : B.m ≠ n1_417 := Nat.ne_of_lt (Nat.lt_of_lt_of_le ((((((((hM.v_masks.keep K183 nin0).other W214 (Ne.symm nd178_04)).keep K237 nin0).other W270 (Ne.symm nd178_04)).keep K294 nin0).other W329 (Ne.symm nd178_04)).keep K354 nin0).other W391 (Ne.symm nd178_04)).lt sq417_n1)
      have ne424 : B.w ≠ n1_417 := Nat.ne_of_lt (Nat.lt_of_lt_of_le ((((((((hM.v_words.keep K183 nin0).other W214 (Ne.symm nd178_05)).keep K237 nin0).other W270 (Ne.symm nd178_05)).keep K294 nin0).other W329 (Ne.symm nd178_05)).keep K354 nin0).other W391 (Ne.symm nd178_05)).lt sq417_n1)
      have ne425 : B.s ≠ n1_417 := Nat.ne_of_lt (Nat.lt_of_lt_of_le ((((((((hM.v_shifts.keep K183 nin0).other W214 (Ne.symm nd178_06)).keep K237 nin0).other W270 (Ne.symm nd178_06)).keep K294 nin0).other W329 (Ne.symm nd178_06)).keep K354 nin0).other W391 (Ne.symm nd178_06)).lt sq417_n1)
      have ne426 : B.x ≠ n1_417 := Nat.ne_of_lt (Nat.lt_of_lt_of_le ((((((((hM.v_nexts.keep K183 nin0).other W214 (Ne.symm nd178_07)).keep K237 nin0).other W270 (Ne.symm nd178_07)).keep K294 nin0).other W329 (Ne.symm nd178_07)).keep K354 nin0).other W391 (Ne.symm nd178_07)).lt sq417_n1)
      have ne427 : B.t ≠ n1_417 := Nat.ne_of_lt (Nat.lt_of_lt_of_le ((((((((hM.v_tops.keep K183 nin0).other W214 (Ne.symm nd178_08)).keep K237 nin0).other W270 (Ne.symm nd178_08)).keep K294 nin0).other W329 (Ne.symm nd178_08)).keep K354 nin0).other W391 (Ne.symm nd178_08)).lt sq417_n1)
      have ne428 : n1_183 ≠ n1_417 := Nat.ne_of_lt (Nat.lt_of_lt_of_le (((((((o183_0.other W214 (Ne.symm ne185)).keep K237 nin0).other W270 (Ne.symm ne185)).keep K294 nin0).other W329 (Ne.symm ne185)).keep K354 nin0).other W391 (Ne.symm ne185)).lt sq417_n1)
      have ne429 : n1_237 ≠ n1_417 := Nat.ne_of_lt (Nat.lt_of_lt_of_le (((((o237_0.other W270 (Ne.symm ne239)).keep K294 nin0).other W329 (Ne.symm ne239)).keep K354 nin0).other W391 (Ne.symm ne239)).lt sq417_n1)
      have ne430 : n1_294 ≠ n1_417 := Nat.ne_of_lt (Nat.lt_of_lt_of_le (((o294_0.other W329 (Ne.symm ne296)).keep K354 nin0).other W391 (Ne.symm ne296)).lt sq417_n1)
      have ne431 : n1_354 ≠ n1_417 := Nat.ne_of_lt (Nat.lt_of_lt_of_le (o354_0.other W391 (Ne.symm ne356)).lt sq417_n1)
      have gg417_n1 : n0 ≤ n1_417 := Nat.le_trans zz391 sq417_n1
      have sz417_n1 : h0.size ≤ n1_417 := Nat.le_trans K414.1 sq417_n1
      have zz417 : n0 ≤ T417.heap.size := Nat.le_trans zz391 K417.1
      have K455 : Keep h0 T417.heap [a1, A.l, A.p, A.lo, A.m, A.w, A.s, A.x, A.t] := K414.trans K417 all0
      show Goes p e below s _ _ _ (T417.setTop (mkF m 167 #[.val (.ref a1), .val (.int (n32 pl)), .val (.int (n32 lo)), .val (.int (n32 wd)), .val (.int (n32 (o_ff C.ts wd))), .val (.int (n32 (2 * C.P.length)))] [(.ref n1_417), (.ref a1)]))
      refine o_putfield X417 hx hZ hown (host := "") (Or.inl (hw _ (List.mem_of_getElem? (i := 31) rfl))) Via.refl (rfl : T417.heap = T417.heap) (f415.keep K417 nin0) (E_391.keep K417) (Or.inl (hw _ (List.mem_of_getElem? (i := 32) rfl))) (hw _ (List.mem_of_getElem? (i := 1) rfl)) (ty := (.array .int)) (by decide) rfl rfl (hb hby d_prog_12_method_4_code_167) (n := 170) rfl ?_
      intro T456 h456 X456 e456 W456 F456 E_456
      have zz456 : n0 ≤ h456.size := Nat.le_trans zz417 (Nat.le_of_eq W456.size.symm)
      have N479 := Fr.snoc X456 N418 (hM.ge _ (List.mem_of_getElem? (i := 0) rfl))
      have K480 : Keep h0 h456 [a1, A.l, A.p, A.lo, A.m, A.w, A.s, A.x, A.t] := K455.wr W456 (hsub _ (List.mem_of_getElem? (i := 0) rfl))
      refine o_aloadN X456 hx (hb hby d_prog_12_method_4_code_170) (v := (.ref a1)) rfl rfl (n := 171) rfl ?_
      refine o_aloadN X456 hx (hb hby d_prog_12_method_4_code_171) (v := (.ref a1)) rfl rfl (n := 172) rfl ?_
      have f481 := ((((((((((hM.f_nexts.keep K183 nin0).other W214 (Or.inr (slot_ne (Or.inl (hw _ (List.mem_of_getElem? (i := 34) rfl))) (Or.inl (hw _ (List.mem_of_getElem? (i := 24) rfl))) (by decide) (t := (.array .int)) (t' := (.array .int)) (by decide) (by decide)))).keep K237 nin0).other W270 (Or.inr (slot_ne (Or.inl (hw _ (List.mem_of_getElem? (i := 34) rfl))) (Or.inl (hw _ (List.mem_of_getElem? (i := 26) rfl))) (by decide) (t := (.array .int)) (t' := (.array .int)) (by decide) (by decide)))).keep K294 nin0).other W329 (Or.inr (slot_ne (Or.inl (hw _ (List.mem_of_getElem? (i := 34) rfl))) (Or.inl (hw _ (List.mem_of_getElem? (i := 28) rfl))) (by decide) (t := (.array .int)) (t' := (.array .long)) (by decide) (by decide)))).keep K354 nin0).other W391 (Or.inr (slot_ne (Or.inl (hw _ (List.mem_of_getElem? (i := 34) rfl))) (Or.inl (hw _ (List.mem_of_getElem? (i := 30) rfl))) (by decide) (t := (.array .int)) (t' := (.array .int)) (by decide) (by decide)))).keep K417 nin0).other W456 (Or.inr (slot_ne (Or.inl (hw _ (List.mem_of_getElem? (i := 34) rfl))) (Or.inl (hw _ (List.mem_of_getElem? (i := 32) rfl))) (by decide) (t := (.array .int)) (t' := (.array .int)) (by decide) (by decide))))
      refine o_getfield X456 hx hZ hown (host := "") (Or.inl (hw _ (List.mem_of_getElem? (i := 33) rfl))) Via.refl e456 f481 (hb hby d_prog_12_method_4_code_172) (n := 175) rfl ?_
      intro T482 X482 e482
      refine o_iload X482 hx (hb hby d_prog_12_method_4_code_175) (v := (n32 (2 * C.P.length))) rfl (n := 177) rfl ?_
      refine o_callS X482 hx hZ hown (hw _ (List.mem_of_getElem? (i := 79) rfl)) (hw _ (List.mem_of_getElem? (i := 80) rfl)) (hw _ (List.mem_of_getElem? (i := 12) rfl)) (hw _ (List.mem_of_getElem? (i := 81) rfl)) (by decide) e482 (argsL := [(.ref B.x), (.int (n32 (2 * C.P.length)))]) (rest := [(.ref a1)]) (c_cpI l Z a0 hw B.x B.kx (C.xs.map Value.int) (o_cap C.P.length) (2 * C.P.length) h456 n0 zz456 ((((((((((hM.v_nexts.keep K183 nin0).other W214 (Ne.symm nd178_07)).keep K237 nin0).other W270 (Ne.symm nd178_07)).keep K294 nin0).other W329 (Ne.symm nd178_07)).keep K354 nin0).other W391 (Ne.symm nd178_07)).keep K417 nin0).other W456 (Ne.symm nd178_07)) gP3 gP4 (by rw [List.length_map, I.len]; exact lP)) 1 (by decide) (by decide) (by decide) (by decide) (by rw [hml]; rfl) (lenOf o_pd4 rfl) rfl (Nat.le_of_eq rfl) (hb hby d_prog_12_method_4_code_177) (n := 180) rfl ?_
      intro v483 T483 L483 X483 q483
      obtain ⟨n1_483, kn_483, rfl, Nq483, K483, sq483_n1, o483_0⟩ := q483
      have N484 := Fr.app N479 Nq483
      have ne485 : a1 ≠ n1_483 := Nat.ne_of_lt (Nat.lt_of_lt_of_le E_456.lt sq483_n1)
      have ne486 : B.l ≠ n1_483 := Nat.ne_of_lt (Nat.lt_of_lt_of_le ((((((((((hM.v_limits.keep K183 nin0).other W214 (Ne.symm nd178_01)).keep K237 nin0).other W270 (Ne.symm nd178_01)).keep K294 nin0).other W329 (Ne.symm nd178_01)).keep K354 nin0).other W391 (Ne.symm nd178_01)).keep K417 nin0).other W456 (Ne.symm nd178_01)).lt sq483_n1)
      have ne487 : B.p ≠ n1_483 := Nat.ne_of_lt (Nat.lt_of_lt_of_le ((((((((((hM.v_places.keep K183 nin0).other W214 (Ne.symm nd178_02)).keep K237 nin0).other W270 (Ne.symm nd178_02)).keep K294 nin0).other W329 (Ne.symm nd178_02)).keep K354 nin0).other W391 (Ne.symm nd178_02)).keep K417 nin0).other W456 (Ne.symm nd178_02)).lt sq483_n1)
      have ne488 : B.lo ≠ n1_483 := Nat.ne_of_lt (Nat.lt_of_lt_of_le ((((((((((hM.v_lows.keep K183 nin0).other W214 (Ne.symm nd178_03)).keep K237 nin0).other W270 (Ne.symm nd178_03)).keep K294 nin0).other W329 (Ne.symm nd178_03)).keep K354 nin0).other W391 (Ne.symm nd178_03)).keep K417 nin0).other W456 (Ne.symm nd178_03)).lt sq483_n1)
      have ne489 : B.m ≠ n1_483 := Nat.ne_of_lt (Nat.lt_of_lt_of_le ((((((((((hM.v_masks.keep K183 nin0).other W214 (Ne.symm nd178_04)).keep K237 nin0).other W270 (Ne.symm nd178_04)).keep K294 nin0).other W329 (Ne.symm nd178_04)).keep K354 nin0).other W391 (Ne.symm nd178_04)).keep K417 nin0).other W456 (Ne.symm nd178_04)).lt sq483_n1)
      have ne490 : B.w ≠ n1_483 := Nat.ne_of_lt (Nat.lt_of_lt_of_le ((((((((((hM.v_words.keep K183 nin0).other W214 (Ne.symm nd178_05)).keep K237 nin0).other W270 (Ne.symm nd178_05)).keep K294 nin0).other W329 (Ne.symm nd178_05)).keep K354 nin0).other W391 (Ne.symm nd178_05)).keep K417 nin0).other W456 (Ne.symm nd178_05)).lt sq483_n1)
      have ne491 : B.s ≠ n1_483 := Nat.ne_of_lt (Nat.lt_of_lt_of_le ((((((((((hM.v_shifts.keep K183 nin0).other W214 (Ne.symm nd178_06)).keep K237 nin0).other W270 (Ne.symm nd178_06)).keep K294 nin0).other W329 (Ne.symm nd178_06)).keep K354 nin0).other W391 (Ne.symm nd178_06)).keep K417 nin0).other W456 (Ne.symm nd178_06)).lt sq483_n1)
      have ne492 : B.x ≠ n1_483 := Nat.ne_of_lt (Nat.lt_of_lt_of_le ((((((((((hM.v_nexts.keep K183 nin0).other W214 (Ne.symm nd178_07)).keep K237 nin0).other W270 (Ne.symm nd178_07)).keep K294 nin0).other W329 (Ne.symm nd178_07)).keep K354 nin0).other W391 (Ne.symm nd178_07)).keep K417 nin0).other W456 (Ne.symm nd178_07)).lt sq483_n1)
      have ne493 : B.t ≠ n1_483 := Nat.ne_of_lt (Nat.lt_of_lt_of_le ((((((((((hM.v_tops.keep K183 nin0).other W214 (Ne.symm nd178_08)).keep K237 nin0).other W270 (Ne.symm nd178_08)).keep K294 nin0).other W329 (Ne.symm nd178_08)).keep K354 nin0).other W391 (Ne.symm nd178_08)).keep K417 nin0).other W456 (Ne.symm nd178_08)).lt sq483_n1)
      have ne494 : n1_183 ≠ n1_483 := Nat.ne_of_lt (Nat.lt_of_lt_of_le (((((((((o183_0.other W214 (Ne.symm ne185)).keep K237 nin0).other W270 (Ne.symm ne185)).keep K294 nin0).other W329 (Ne.symm ne185)).keep K354 nin0).other W391 (Ne.symm ne185)).keep K417 nin0).other W456 (Ne.symm ne185)).lt sq483_n1)
      have ne495 : n1_237 ≠ n1_483 := Nat.ne_of_lt (Nat.lt_of_lt_of_le (((((((o237_0.other W270 (Ne.symm ne239)).keep K294 nin0).other W329 (Ne.symm ne239)).keep K354 nin0).other W391 (Ne.symm ne239)).keep K417 nin0).other W456 (Ne.symm ne239)).lt sq483_n1)
      have ne496 : n1_294 ≠ n1_483 := Nat.ne_of_lt (Nat.lt_of_lt_of_le (((((o294_0.other W329 (Ne.symm ne296)).keep K354 nin0).other W391 (Ne.symm ne296)).keep K417 nin0).other W456 (Ne.symm ne296)).lt sq483_n1)
      have ne497 : n1_354 ≠ n1_483 := Nat.ne_of_lt (Nat.lt_of_lt_of_le (((o354_0.other W391 (Ne.symm ne356)).keep K417 nin0).other W456 (Ne.symm ne356)).lt sq483_n1)
      have ne498 : n1_417 ≠ n1_483 := Nat.ne_of_lt (Nat.lt_of_lt_of_le (o417_0.other W456 (Ne.symm ne419)).lt sq483_n1)
      have gg483_n1 : n0 ≤ n1_483 := Nat.le_trans zz456 sq483_n1
      have sz483_n1 : h0.size ≤ n1_483 := Nat.le_trans K480.1 sq483_n1
      have zz483 : n0 ≤ T483.heap.size := Nat.le_trans zz456 K483.1
      have K523 : Keep h0 T483.heap [a1, A.l, A.p, A.lo, A.m, A.w, A.s, A.x, A.t] := K480.trans K483 all0
      show Goes p e below s _ _ _ (T483.setTop (mkF m 180 #[.val (.ref a1), .val (.int (n32 pl)), .val (.int (n32 lo)), .val (.int (n32 wd)), .val (.int (n32 (o_ff C.ts wd))), .val (.int (n32 (2 * C.P.length)))] [(.ref n1_483), (.ref a1)]))
      refine o_putfield X483 hx hZ hown (host := "") (Or.inl (hw _ (List.mem_of_getElem? (i := 33) rfl))) Via.refl (rfl : T483.heap = T483.heap) (f481.keep K483 nin0) (E_456.keep K483) (Or.inl (hw _ (List.mem_of_getElem? (i := 34) rfl))) (hw _ (List.mem_of_getElem? (i := 1) rfl)) (ty := (.array .int)) (by decide) rfl rfl (hb hby d_prog_12_method_4_code_180) (n := 183) rfl ?_
      intro T524 h524 X524 e524 W524 F524 E_524
      have zz524 : n0 ≤ h524.size := Nat.le_trans zz483 (Nat.le_of_eq W524.size.symm)
      have N548 := Fr.snoc X524 N484 (hM.ge _ (List.mem_of_getElem? (i := 0) rfl))
      have K549 : Keep h0 h524 [a1, A.l, A.p, A.lo, A.m, A.w, A.s, A.x, A.t] := K523.wr W524 (hsub _ (List.mem_of_getElem? (i := 0) rfl))
      have hM550 : o_M Z h524 n0 a1 ⟨B.l, n1_183, n1_237, n1_294, n1_354, n1_417, n1_483, B.t, B.kl, kn_183, kn_237, kn_294, kn_354, kn_417, kn_483, B.kt⟩ C (2 * C.P.length) zT tl (o_ts1 C.ts (o_ff C.ts wd)) := ⟨(o_nd9 nd178_01 ne185 ne239 ne296 ne356 ne419 ne485 nd178_08 ne186 ne240 ne297 ne357 ne420 ne486 nd178_18 ne248 ne305 ne365 ne428 ne494 (Ne.symm ne193) ne306 ne366 ne429 ne495 (Ne.symm ne247) ne367 ne430 ne496 (Ne.symm ne304) ne431 ne497 (Ne.symm ne364) ne498 (Ne.symm ne427) (Ne.symm ne493)), (o_all9 (P := fun y => n0 ≤ y) (hM.ge _ (List.mem_of_getElem? (i := 0) rfl)) (hM.ge _ (List.mem_of_getElem? (i := 1) rfl)) gg183_n1 gg237_n1 gg294_n1 gg354_n1 gg417_n1 gg483_n1 (hM.ge _ (List.mem_of_getElem? (i := 8) rfl))), E_524, ((((((((((((hM.f_limits.keep K183 nin0).other W214 (Or.inr (slot_ne (Or.inr (hw _ (List.mem_of_getElem? (i := 22) rfl))) (Or.inl (hw _ (List.mem_of_getElem? (i := 24) rfl))) (by decide) (t := (.array .long)) (t' := (.array .int)) (by decide) (by decide)))).keep K237 nin0).other W270 (Or.inr (slot_ne (Or.inr (hw _ (List.mem_of_getElem? (i := 22) rfl))) (Or.inl (hw _ (List.mem_of_getElem? (i := 26) rfl))) (by decide) (t := (.array .long)) (t' := (.array .int)) (by decide) (by decide)))).keep K294 nin0).other W329 (Or.inr (slot_ne (Or.inr (hw _ (List.mem_of_getElem? (i := 22) rfl))) (Or.inl (hw _ (List.mem_of_getElem? (i := 28) rfl))) (by decide) (t := (.array .long)) (t' := (.array .long)) (by decide) (by decide)))).keep K354 nin0).other W391 (Or.inr (slot_ne (Or.inr (hw _ (List.mem_of_getElem? (i := 22) rfl))) (Or.inl (hw _ (List.mem_of_getElem? (i := 30) rfl))) (by decide) (t := (.array .long)) (t' := (.array .int)) (by decide) (by decide)))).keep K417 nin0).other W456 (Or.inr (slot_ne (Or.inr (hw _ (List.mem_of_getElem? (i := 22) rfl))) (Or.inl (hw _ (List.mem_of_getElem? (i := 32) rfl))) (by decide) (t := (.array .long)) (t' := (.array .int)) (by decide) (by decide)))).keep K483 nin0).other W524 (Or.inr (slot_ne (Or.inr (hw _ (List.mem_of_getElem? (i := 22) rfl))) (Or.inl (hw _ (List.mem_of_getElem? (i := 34) rfl))) (by decide) (t := (.array .long)) (t' := (.array .int)) (by decide) (by decide)))), ((((((((((F214.keep K237 nin0).other W270 (Or.inr (slot_ne (Or.inl (hw _ (List.mem_of_getElem? (i := 24) rfl))) (Or.inl (hw _ (List.mem_of_getElem? (i := 26) rfl))) (by decide) (t := (.array .int)) (t' := (.array .int)) (by decide) (by decide)))).keep K294 nin0).other W329 (Or.inr (slot_ne (Or.inl (hw _ (List.mem_of_getElem? (i := 24) rfl))) (Or.inl (hw _ (List.mem_of_getElem? (i := 28) rfl))) (by decide) (t := (.array .int)) (t' := (.array .long)) (by decide) (by decide)))).keep K354 nin0).other W391 (Or.inr (slot_ne (Or.inl (hw _ (List.mem_of_getElem? (i := 24) rfl))) (Or.inl (hw _ (List.mem_of_getElem? (i := 30) rfl))) (by decide) (t := (.array .int)) (t' := (.array .int)) (by decide) (by decide)))).keep K417 nin0).other W456 (Or.inr (slot_ne (Or.inl (hw _ (List.mem_of_getElem? (i := 24) rfl))) (Or.inl (hw _ (List.mem_of_getElem? (i := 32) rfl))) (by decide) (t := (.array .int)) (t' := (.array .int)) (by decide) (by decide)))).keep K483 nin0).other W524 (Or.inr (slot_ne (Or.inl (hw _ (List.mem_of_getElem? (i := 24) rfl))) (Or.inl (hw _ (List.mem_of_getElem? (i := 34) rfl))) (by decide) (t := (.array .int)) (t' := (.array .int)) (by decide) (by decide)))), ((((((((F270.keep K294 nin0).other W329 (Or.inr (slot_ne (Or.inl (hw _ (List.mem_of_getElem? (i := 26) rfl))) (Or.inl (hw _ (List.mem_of_getElem? (i := 28) rfl))) (by decide) (t := (.array .int)) (t' := (.array .long)) (by decide) (by decide)))).keep K354 nin0).other W391 (Or.inr (slot_ne (Or.inl (hw _ (List.mem_of_getElem? (i := 26) rfl))) (Or.inl (hw _ (List.mem_of_getElem? (i := 30) rfl))) (by decide) (t := (.array .int)) (t' := (.array .int)) (by decide) (by decide)))).keep K417 nin0).other W456 (Or.inr (slot_ne (Or.inl (hw _ (List.mem_of_getElem? (i := 26) rfl))) (Or.inl (hw _ (List.mem_of_getElem? (i := 32) rfl))) (by decide) (t := (.array .int)) (t' := (.array .int)) (by decide) (by decide)))).keep K483 nin0).other W524 (Or.inr (slot_ne (Or.inl (hw _ (List.mem_of_getElem? (i := 26) rfl))) (Or.inl (hw _ (List.mem_of_getElem? (i := 34) rfl))) (by decide) (t := (.array .int)) (t' := (.array .int)) (by decide) (by decide)))), ((((((F329.keep K354 nin0).other W391 (Or.inr (slot_ne (Or.inl (hw _ (List.mem_of_getElem? (i := 28) rfl))) (Or.inl (hw _ (List.mem_of_getElem? (i := 30) rfl))) (by decide) (t := (.array .long)) (t' := (.array .int)) (by decide) (by decide)))).keep K417 nin0).other W456 (Or.inr (slot_ne (Or.inl (hw _ (List.mem_of_getElem? (i := 28) rfl))) (Or.inl (hw _ (List.mem_of_getElem? (i := 32) rfl))) (by decide) (t := (.array .long)) (t' := (.array .int)) (by decide) (by decide)))).keep K483 nin0).other W524 (Or.inr (slot_ne (Or.inl (hw _ (List.mem_of_getElem? (i := 28) rfl))) (Or.inl (hw _ (List.mem_of_getElem? (i := 34) rfl))) (by decide) (t := (.array .long)) (t' := (.array .int)) (by decide) (by decide)))), ((((F391.keep K417 nin0).other W456 (Or.inr (slot_ne (Or.inl (hw _ (List.mem_of_getElem? (i := 30) rfl))) (Or.inl (hw _ (List.mem_of_getElem? (i := 32) rfl))) (by decide) (t := (.array .int)) (t' := (.array .int)) (by decide) (by decide)))).keep K483 nin0).other W524 (Or.inr (slot_ne (Or.inl (hw _ (List.mem_of_getElem? (i := 30) rfl))) (Or.inl (hw _ (List.mem_of_getElem? (i := 34) rfl))) (by decide) (t := (.array .int)) (t' := (.array .int)) (by decide) (by decide)))), ((F456.keep K483 nin0).other W524 (Or.inr (slot_ne (Or.inl (hw _ (List.mem_of_getElem? (i := 32) rfl))) (Or.inl (hw _ (List.mem_of_getElem? (i := 34) rfl))) (by decide) (t := (.array .int)) (t' := (.array .int)) (by decide) (by decide)))), F524, ((((((((((((hM.f_tops.keep K183 nin0).other W214 (Or.inr (slot_ne (Or.inl (hw _ (List.mem_of_getElem? (i := 36) rfl))) (Or.inl (hw _ (List.mem_of_getElem? (i := 24) rfl))) (by decide) (t := (.array .int)) (t' := (.array .int)) (by decide) (by decide)))).keep K237 nin0).other W270 (Or.inr (slot_ne (Or.inl (hw _ (List.mem_of_getElem? (i := 36) rfl))) (Or.inl (hw _ (List.mem_of_getElem? (i := 26) rfl))) (by decide) (t := (.array .int)) (t' := (.array .int)) (by decide) (by decide)))).keep K294 nin0).other W329 (Or.inr (slot_ne (Or.inl (hw _ (List.mem_of_getElem? (i := 36) rfl))) (Or.inl (hw _ (List.mem_of_getElem? (i := 28) rfl))) (by decide) (t := (.array .int)) (t' := (.array .long)) (by decide) (by decide)))).keep K354 nin0).other W391 (Or.inr (slot_ne (Or.inl (hw _ (List.mem_of_getElem? (i := 36) rfl))) (Or.inl (hw _ (List.mem_of_getElem? (i := 30) rfl))) (by decide) (t := (.array .int)) (t' := (.array .int)) (by decide) (by decide)))).keep K417 nin0).other W456 (Or.inr (slot_ne (Or.inl (hw _ (List.mem_of_getElem? (i := 36) rfl))) (Or.inl (hw _ (List.mem_of_getElem? (i := 32) rfl))) (by decide) (t := (.array .int)) (t' := (.array .int)) (by decide) (by decide)))).keep K483 nin0).other W524 (Or.inr (slot_ne (Or.inl (hw _ (List.mem_of_getElem? (i := 36) rfl))) (Or.inl (hw _ (List.mem_of_getElem? (i := 34) rfl))) (by decide) (t := (.array .int)) (t' := (.array .int)) (by decide) (by decide)))), ((((((((((((hM.f_pieces.keep K183 nin0).other W214 (Or.inr (slot_ne (Or.inl (hw _ (List.mem_of_getElem? (i := 49) rfl))) (Or.inl (hw _ (List.mem_of_getElem? (i := 24) rfl))) (by decide) (t := .int) (t' := (.array .int)) (by decide) (by decide)))).keep K237 nin0).other W270 (Or.inr (slot_ne (Or.inl (hw _ (List.mem_of_getElem? (i := 49) rfl))) (Or.inl (hw _ (List.mem_of_getElem? (i := 26) rfl))) (by decide) (t := .int) (t' := (.array .int)) (by decide) (by decide)))).keep K294 nin0).other W329 (Or.inr (slot_ne (Or.inl (hw _ (List.mem_of_getElem? (i := 49) rfl))) (Or.inl (hw _ (List.mem_of_getElem? (i := 28) rfl))) (by decide) (t := .int) (t' := (.array .long)) (by decide) (by decide)))).keep K354 nin0).other W391 (Or.inr (slot_ne (Or.inl (hw _ (List.mem_of_getElem? (i := 49) rfl))) (Or.inl (hw _ (List.mem_of_getElem? (i := 30) rfl))) (by decide) (t := .int) (t' := (.array .int)) (by decide) (by decide)))).keep K417 nin0).other W456 (Or.inr (slot_ne (Or.inl (hw _ (List.mem_of_getElem? (i := 49) rfl))) (Or.inl (hw _ (List.mem_of_getElem? (i := 32) rfl))) (by decide) (t := .int) (t' := (.array .int)) (by decide) (by decide)))).keep K483 nin0).other W524 (Or.inr (slot_ne (Or.inl (hw _ (List.mem_of_getElem? (i := 49) rfl))) (Or.inl (hw _ (List.mem_of_getElem? (i := 34) rfl))) (by decide) (t := .int) (t' := (.array .int)) (by decide) (by decide)))), ((((((((((((hM.f_length.keep K183 nin0).other W214 (Or.inr (slot_ne (Or.inl (hw _ (List.mem_of_getElem? (i := 39) rfl))) (Or.inl (hw _ (List.mem_of_getElem? (i := 24) rfl))) (by decide) (t := .int) (t' := (.array .int)) (by decide) (by decide)))).keep K237 nin0).other W270 (Or.inr (slot_ne (Or.inl (hw _ (List.mem_of_getElem? (i := 39) rfl))) (Or.inl (hw _ (List.mem_of_getElem? (i := 26) rfl))) (by decide) (t := .int) (t' := (.array .int)) (by decide) (by decide)))).keep K294 nin0).other W329 (Or.inr (slot_ne (Or.inl (hw _ (List.mem_of_getElem? (i := 39) rfl))) (Or.inl (hw _ (List.mem_of_getElem? (i := 28) rfl))) (by decide) (t := .int) (t' := (.array .long)) (by decide) (by decide)))).keep K354 nin0).other W391 (Or.inr (slot_ne (Or.inl (hw _ (List.mem_of_getElem? (i := 39) rfl))) (Or.inl (hw _ (List.mem_of_getElem? (i := 30) rfl))) (by decide) (t := .int) (t' := (.array .int)) (by decide) (by decide)))).keep K417 nin0).other W456 (Or.inr (slot_ne (Or.inl (hw _ (List.mem_of_getElem? (i := 39) rfl))) (Or.inl (hw _ (List.mem_of_getElem? (i := 32) rfl))) (by decide) (t := .int) (t' := (.array .int)) (by decide) (by decide)))).keep K483 nin0).other W524 (Or.inr (slot_ne (Or.inl (hw _ (List.mem_of_getElem? (i := 39) rfl))) (Or.inl (hw _ (List.mem_of_getElem? (i := 34) rfl))) (by decide) (t := .int) (t' := (.array .int)) (by decide) (by decide)))), ((((((((((((hM.v_limits.keep K183 nin0).other W214 (Ne.symm nd178_01)).keep K237 nin0).other W270 (Ne.symm nd178_01)).keep K294 nin0).other W329 (Ne.symm nd178_01)).keep K354 nin0).other W391 (Ne.symm nd178_01)).keep K417 nin0).other W456 (Ne.symm nd178_01)).keep K483 nin0).other W524 (Ne.symm nd178_01)), (((((((((((o183_0.other W214 (Ne.symm ne185)).keep K237 nin0).other W270 (Ne.symm ne185)).keep K294 nin0).other W329 (Ne.symm ne185)).keep K354 nin0).other W391 (Ne.symm ne185)).keep K417 nin0).other W456 (Ne.symm ne185)).keep K483 nin0).other W524 (Ne.symm ne185)), (((((((((o237_0.other W270 (Ne.symm ne239)).keep K294 nin0).other W329 (Ne.symm ne239)).keep K354 nin0).other W391 (Ne.symm ne239)).keep K417 nin0).other W456 (Ne.symm ne239)).keep K483 nin0).other W524 (Ne.symm ne239)), (((((((o294_0.other W329 (Ne.symm ne296)).keep K354 nin0).other W391 (Ne.symm ne296)).keep K417 nin0).other W456 (Ne.symm ne296)).keep K483 nin0).other W524 (Ne.symm ne296)), (((((o354_0.other W391 (Ne.symm ne356)).keep K417 nin0).other W456 (Ne.symm ne356)).keep K483 nin0).other W524 (Ne.symm ne356)), (((o417_0.other W456 (Ne.symm ne419)).keep K483 nin0).other W524 (Ne.symm ne419)), (o483_0.other W524 (Ne.symm ne485)), ((((((((((((hM.v_tops.keep K183 nin0).other W214 (Ne.symm nd178_08)).keep K237 nin0).other W270 (Ne.symm nd178_08)).keep K294 nin0).other W329 (Ne.symm nd178_08)).keep K354 nin0).other W391 (Ne.symm nd178_08)).keep K417 nin0).other W456 (Ne.symm nd178_08)).keep K483 nin0).other W524 (Ne.symm nd178_08))⟩
      exact k183 _ _ _ ⟨B.l, n1_183, n1_237, n1_294, n1_354, n1_417, n1_483, B.t, B.kl, kn_183, kn_237, kn_294, kn_354, kn_417, kn_483, B.kt⟩ (2 * C.P.length) zT tl _ (o_mono X524 (by decide) (by decide)) e524 N548 zz524 K549 (o_all9 (P := fun y => y ∈ a1 :: A.all ∨ h0.size ≤ y) (hsub _ (List.mem_of_getElem? (i := 0) rfl)) (hsub _ (List.mem_of_getElem? (i := 1) rfl)) (Or.inr sz183_n1) (Or.inr sz237_n1) (Or.inr sz294_n1) (Or.inr sz354_n1) (Or.inr sz417_n1) (Or.inr sz483_n1) (hsub _ (List.mem_of_getElem? (i := 8) rfl))) hM550 hzT htl hJz bz gP2 gP5 gP8
    · refine o_icmpY X177 hx (hb hby d_prog_12_method_4_code_90) (XT.ii_ne_t hc90) (by decide) (n := 183) (by decide) ?_
      obtain ⟨gP1, gP2⟩ := o_ng hn hc90
      exact k183 _ _ _ B (o_cap C.P.length) zT tl _ (o_mono X177 (by decide) (by decide)) e177 N_ zz_ K_ hsub hM hzT htl hJz bz gP2 gP1 bcP
  have lp551 : ∀ (k i : Nat) (T_ : State) (Lc : List Loc), i + k = C.ts.length → (o_ffk C.ts wd i k = o_ff C.ts wd) → Stand p l e (({ frames := 2, cells := 7, slots := 56, locals := 33 } : Room)) s m #[(.ref a1), (.int (n32 pl)), (.int (n32 lo)), (.int (n32 wd)), (.int (0 : Int32))] below meth c T_ Lc 0 0 → T_.heap = h0 → Fr n0 Lc → Goes p e below s (fun v h L => ∃ A' : o_A, v = some (.int (n32 C.P.length)) ∧ Fr n0 L ∧ Keep h0 h (a1 :: A.all) ∧ (∀ y ∈ a1 :: A'.all, y ∈ a1 :: A.all ∨ h0.size ≤ y) ∧ o_L Z h n0 a1 A' (o_add C pl lo wd)) (({ frames := 2, cells := 7, slots := 56, locals := 33 } : Room)).cells (({ frames := 2, cells := 7, slots := 56, locals := 33 } : Room)).slots (T_.setTop (mkF m 0 #[.val (.ref a1), .val (.int (n32 pl)), .val (.int (n32 lo)), .val (.int (n32 wd)), .val (.int (n32 i)), .unset] [])) := by
    intro k
    induction k with
    | zero =>
      intro i T_ Lc hik hff X_ e_ N_
      refine o_iload X_ hx (hb hby d_prog_12_method_4_code_0) (v := (n32 i)) rfl (n := 2) rfl ?_
      have hi : i = C.ts.length := hik
      refine o_aloadN X_ hx (hb hby d_prog_12_method_4_code_2) (v := (.ref a1)) rfl rfl (n := 3) rfl ?_
      refine o_getfield X_ hx hZ hown (host := "") (Or.inl (hw _ (List.mem_of_getElem? (i := 38) rfl))) Via.refl e_ pL.f_length (hb hby d_prog_12_method_4_code_3) (n := 6) rfl ?_
      intro T552 X552 e552
      refine o_icmpY X552 hx (hb hby d_prog_12_method_4_code_6) (XT.ii_ge_t (o_ltF (Nat.le_of_eq hi.symm) (hi ▸ bT))) (by decide) (n := 29) (by decide) ?_
      obtain rfl : i = o_ff C.ts wd := hff
      have hJl : o_ff C.ts wd = C.ts.length := hi
      have hJn : ¬ o_ff C.ts wd < C.ts.length := hJl ▸ Nat.lt_irrefl _
      obtain ⟨nd553_01, nd553_02, nd553_03, nd553_04, nd553_05, nd553_06, nd553_07, nd553_08, nd553_12, nd553_13, nd553_14, nd553_15, nd553_16, nd553_17, nd553_18, nd553_23, nd553_24, nd553_25, nd553_26, nd553_27, nd553_28, nd553_34, nd553_35, nd553_36, nd553_37, nd553_38, nd553_45, nd553_46, nd553_47, nd553_48, nd553_56, nd553_57, nd553_58, nd553_67, nd553_68, nd553_78⟩ := o_nd36 pL.nd
      show Goes p e below s _ _ _ (T552.setTop (mkF m 29 #[.val (.ref a1), .val (.int (n32 pl)), .val (.int (n32 lo)), .val (.int (n32 wd)), .val (.int (n32 (o_ff C.ts wd))), .unset] []))
      refine o_iload X552 hx (hb hby d_prog_12_method_4_code_29) (v := (n32 (o_ff C.ts wd))) rfl (n := 31) rfl ?_
      refine o_aloadN X552 hx (hb hby d_prog_12_method_4_code_31) (v := (.ref a1)) rfl rfl (n := 32) rfl ?_
      refine o_getfield X552 hx hZ hown (host := "") (Or.inl (hw _ (List.mem_of_getElem? (i := 38) rfl))) Via.refl e552 pL.f_length (hb hby d_prog_12_method_4_code_32) (n := 35) rfl ?_
      intro T554 X554 e554
      refine o_icmpN X554 hx (hb hby d_prog_12_method_4_code_35) (XT.ii_ne_f (congrArg n32 hJl)) (n := 38) rfl ?_
      refine o_aloadN X554 hx (hb hby d_prog_12_method_4_code_38) (v := (.ref a1)) rfl rfl (n := 39) rfl ?_
      refine o_getfield X554 hx hZ hown (host := "") (Or.inl (hw _ (List.mem_of_getElem? (i := 38) rfl))) Via.refl e554 pL.f_length (hb hby d_prog_12_method_4_code_39) (n := 42) rfl ?_
      intro T555 X555 e555
      refine o_aloadN X555 hx (hb hby d_prog_12_method_4_code_42) (v := (.ref a1)) rfl rfl (n := 43) rfl ?_
      refine o_getfield X555 hx hZ hown (host := "") (Or.inl (hw _ (List.mem_of_getElem? (i := 35) rfl))) Via.refl e555 pL.f_tops (hb hby d_prog_12_method_4_code_43) (n := 46) rfl ?_
      intro T556 X556 e556
      refine o_arraylength X556 hx hZ e556 pL.v_tops (hb hby d_prog_12_method_4_code_46) (n := 47) rfl ?_
      by_cases hc47 : (n32 C.ts.length) = (n32 (o_cap C.ts.length))
      · refine o_icmpN X556 hx (hb hby d_prog_12_method_4_code_47) (XT.ii_ne_f hc47) (n := 50) rfl ?_
        obtain ⟨gT1, gT2, gT3, gT4, gT5, gT6, gT7, gT8⟩ := o_gr hT hc47
        have hJz : o_ff C.ts wd < 2 * C.ts.length := hJl ▸ gT5
        have bz := gT8
        refine o_aloadN X556 hx (hb hby d_prog_12_method_4_code_50) (v := (.ref a1)) rfl rfl (n := 51) rfl ?_
        refine o_aloadN X556 hx (hb hby d_prog_12_method_4_code_51) (v := (.ref a1)) rfl rfl (n := 52) rfl ?_
        refine o_getfield X556 hx hZ hown (host := "") (Or.inl (hw _ (List.mem_of_getElem? (i := 35) rfl))) Via.refl e556 pL.f_tops (hb hby d_prog_12_method_4_code_52) (n := 55) rfl ?_
        intro T557 X557 e557
        refine o_iconst X557 hx (hb hby d_prog_12_method_4_code_55) (v := (1 : Int32)) rfl (n := 56) rfl ?_
        refine o_iconst X557 hx (hb hby d_prog_12_method_4_code_56) (v := (2 : Int32)) rfl (n := 57) rfl ?_
        refine o_aloadN X557 hx (hb hby d_prog_12_method_4_code_57) (v := (.ref a1)) rfl rfl (n := 58) rfl ?_
        refine o_getfield X557 hx hZ hown (host := "") (Or.inl (hw _ (List.mem_of_getElem? (i := 38) rfl))) Via.refl e557 pL.f_length (hb hby d_prog_12_method_4_code_58) (n := 61) rfl ?_
        intro T558 X558 e558
        refine o_imul X558 hx (hb hby d_prog_12_method_4_code_61) (v := (n32 (2 * C.ts.length))) (o_n2 _) (n := 62) rfl ?_
        refine o_callS X558 hx hZ hown (hw _ (List.mem_of_getElem? (i := 40) rfl)) (hw _ (List.mem_of_getElem? (i := 41) rfl)) (hw _ (List.mem_of_getElem? (i := 42) rfl)) (hw _ (List.mem_of_getElem? (i := 43) rfl)) (by decide) e558 (argsL := [(.int (1 : Int32)), (.int (n32 (2 * C.ts.length)))]) (rest := [(.ref A.t), (.ref a1)]) ((o_mx1 (a := 2 * C.ts.length) gT6 gT7) ▸ c_max l Z a0 hw (1 : Int32) (n32 (2 * C.ts.length)) h0) 2 (by decide) (by decide) (by decide) (by decide) (by rw [hml]; rfl) (lenOf o_pd3 rfl) rfl (Nat.le_of_eq rfl) (hb hby d_prog_12_method_4_code_62) (n := 65) rfl ?_
        intro v559 T559 L559 X559 q559
        obtain ⟨rfl, e559, rfl⟩ := q559
        have N560 := Fr.app N_ (Fr.nil n0)
        show Goes p e below s _ _ _ (T559.setTop (mkF m 65 #[.val (.ref a1), .val (.int (n32 pl)), .val (.int (n32 lo)), .val (.int (n32 wd)), .val (.int (n32 (o_ff C.ts wd))), .unset] [(.int (n32 (2 * C.ts.length))), (.ref A.t), (.ref a1)]))
        refine o_callS X559 hx hZ hown (hw _ (List.mem_of_getElem? (i := 79) rfl)) (hw _ (List.mem_of_getElem? (i := 80) rfl)) (hw _ (List.mem_of_getElem? (i := 12) rfl)) (hw _ (List.mem_of_getElem? (i := 81) rfl)) (by decide) e559 (argsL := [(.ref A.t), (.int (n32 (2 * C.ts.length)))]) (rest := [(.ref a1)]) (c_cpI l Z a0 hw A.t A.kt (C.ts.map fun t => .int (n32 t)) (o_cap C.ts.length) (2 * C.ts.length) h0 n0 Z0 pL.v_tops gT3 gT4 (by rw [List.length_map]; exact lT)) 1 (by decide) (by decide) (by decide) (by decide) (by rw [hml]; rfl) (lenOf o_pd4 rfl) rfl (Nat.le_of_eq rfl) (hb hby d_prog_12_method_4_code_65) (n := 68) rfl ?_
        intro v561 T561 L561 X561 q561
        obtain ⟨n1_561, kn_561, rfl, Nq561, K561, sq561_n1, o561_0⟩ := q561
        have N562 := Fr.app N560 Nq561
        have ne563 : a1 ≠ n1_561 := Nat.ne_of_lt (Nat.lt_of_lt_of_le pL.E.lt sq561_n1)
        have ne564 : A.l ≠ n1_561 := Nat.ne_of_lt (Nat.lt_of_lt_of_le pL.v_limits.lt sq561_n1)
        have ne565 : A.p ≠ n1_561 := Nat.ne_of_lt (Nat.lt_of_lt_of_le pL.v_places.lt sq561_n1)
        have ne566 : A.lo ≠ n1_561 := Nat.ne_of_lt (Nat.lt_of_lt_of_le pL.v_lows.lt sq561_n1)
        have ne567 : A.m ≠ n1_561 := Nat.ne_of_lt (Nat.lt_of_lt_of_le pL.v_masks.lt sq561_n1)
        have ne568 : A.w ≠ n1_561 := Nat.ne_of_lt (Nat.lt_of_lt_of_le pL.v_words.lt sq561_n1)
        have ne569 : A.s ≠ n1_561 := Nat.ne_of_lt (Nat.lt_of_lt_of_le pL.v_shifts.lt sq561_n1)
        have ne570 : A.x ≠ n1_561 := Nat.ne_of_lt (Nat.lt_of_lt_of_le pL.v_nexts.lt sq561_n1)
        have ne571 : A.t ≠ n1_561 := Nat.ne_of_lt (Nat.lt_of_lt_of_le pL.v_tops.lt sq561_n1)
        have gg561_n1 : n0 ≤ n1_561 := Nat.le_trans Z0 sq561_n1
        have sz561_n1 : h0.size ≤ n1_561 := Nat.le_trans (Keep.refl h0 [a1, A.l, A.p, A.lo, A.m, A.w, A.s, A.x, A.t]).1 sq561_n1
        have zz561 : n0 ≤ T561.heap.size := Nat.le_trans Z0 K561.1
        have K591 : Keep h0 T561.heap [a1, A.l, A.p, A.lo, A.m, A.w, A.s, A.x, A.t] := (Keep.refl h0 [a1, A.l, A.p, A.lo, A.m, A.w, A.s, A.x, A.t]).trans K561 all0
        show Goes p e below s _ _ _ (T561.setTop (mkF m 68 #[.val (.ref a1), .val (.int (n32 pl)), .val (.int (n32 lo)), .val (.int (n32 wd)), .val (.int (n32 (o_ff C.ts wd))), .unset] [(.ref n1_561), (.ref a1)]))
        refine o_putfield X561 hx hZ hown (host := "") (Or.inl (hw _ (List.mem_of_getElem? (i := 35) rfl))) Via.refl (rfl : T561.heap = T561.heap) (pL.f_tops.keep K561 nin0) (pL.E.keep K561) (Or.inl (hw _ (List.mem_of_getElem? (i := 36) rfl))) (hw _ (List.mem_of_getElem? (i := 1) rfl)) (ty := (.array .int)) (by decide) rfl rfl (hb hby d_prog_12_method_4_code_68) (n := 71) rfl ?_
        intro T592 h592 X592 e592 W592 F592 E_592
        have zz592 : n0 ≤ h592.size := Nat.le_trans zz561 (Nat.le_of_eq W592.size.symm)
        have N611 := Fr.snoc X592 N562 (pL.ge _ (List.mem_of_getElem? (i := 0) rfl))
        have K612 : Keep h0 h592 [a1, A.l, A.p, A.lo, A.m, A.w, A.s, A.x, A.t] := K591.wr W592 (Or.inl (List.mem_of_getElem? (i := 0) rfl))
        refine o_aloadN X592 hx (hb hby d_prog_12_method_4_code_71) (v := (.ref a1)) rfl rfl (n := 72) rfl ?_
        refine o_dup X592 hx (hb hby d_prog_12_method_4_code_72) rfl (n := 73) rfl ?_
        have f613 := ((pL.f_length.keep K561 nin0).other W592 (Or.inr (slot_ne (Or.inl (hw _ (List.mem_of_getElem? (i := 39) rfl))) (Or.inl (hw _ (List.mem_of_getElem? (i := 36) rfl))) (by decide) (t := .int) (t' := (.array .int)) (by decide) (by decide))))
        refine o_getfield X592 hx hZ hown (host := "") (Or.inl (hw _ (List.mem_of_getElem? (i := 38) rfl))) Via.refl e592 f613 (hb hby d_prog_12_method_4_code_73) (n := 76) rfl ?_
        intro T614 X614 e614
        refine o_iconst X614 hx (hb hby d_prog_12_method_4_code_76) (v := (1 : Int32)) rfl (n := 77) rfl ?_
        refine o_iadd X614 hx (hb hby d_prog_12_method_4_code_77) (v := (n32 (C.ts.length + 1))) (o_nadd _ 1) (n := 78) rfl ?_
        refine o_putfield X614 hx hZ hown (host := "") (Or.inl (hw _ (List.mem_of_getElem? (i := 38) rfl))) Via.refl e614 f613 E_592 (Or.inl (hw _ (List.mem_of_getElem? (i := 39) rfl))) (hw _ (List.mem_of_getElem? (i := 1) rfl)) (ty := .int) (by decide) rfl rfl (hb hby d_prog_12_method_4_code_78) (n := 81) rfl ?_
        intro T615 h615 X615 e615 W615 F615 E_615
        have zz615 : n0 ≤ h615.size := Nat.le_trans zz592 (Nat.le_of_eq W615.size.symm)
        have N634 := Fr.snoc X615 N611 (pL.ge _ (List.mem_of_getElem? (i := 0) rfl))
        have K635 : Keep h0 h615 [a1, A.l, A.p, A.lo, A.m, A.w, A.s, A.x, A.t] := K612.wr W615 (Or.inl (List.mem_of_getElem? (i := 0) rfl))
        have hM636 : o_M Z h615 n0 a1 ⟨A.l, A.p, A.lo, A.m, A.w, A.s, A.x, n1_561, A.kl, A.kp, A.ko, A.km, A.kw, A.ks, A.kx, kn_561⟩ C (o_cap C.P.length) (2 * C.ts.length) (C.ts.length + 1) (o_ts1 C.ts (o_ff C.ts wd)) := ⟨(o_nd9 nd553_01 nd553_02 nd553_03 nd553_04 nd553_05 nd553_06 nd553_07 ne563 nd553_12 nd553_13 nd553_14 nd553_15 nd553_16 nd553_17 ne564 nd553_23 nd553_24 nd553_25 nd553_26 nd553_27 ne565 nd553_34 nd553_35 nd553_36 nd553_37 ne566 nd553_45 nd553_46 nd553_47 ne567 nd553_56 nd553_57 ne568 nd553_67 ne569 ne570), (o_all9 (P := fun y => n0 ≤ y) (pL.ge _ (List.mem_of_getElem? (i := 0) rfl)) (pL.ge _ (List.mem_of_getElem? (i := 1) rfl)) (pL.ge _ (List.mem_of_getElem? (i := 2) rfl)) (pL.ge _ (List.mem_of_getElem? (i := 3) rfl)) (pL.ge _ (List.mem_of_getElem? (i := 4) rfl)) (pL.ge _ (List.mem_of_getElem? (i := 5) rfl)) (pL.ge _ (List.mem_of_getElem? (i := 6) rfl)) (pL.ge _ (List.mem_of_getElem? (i := 7) rfl)) gg561_n1), E_615, (((pL.f_limits.keep K561 nin0).other W592 (Or.inr (slot_ne (Or.inr (hw _ (List.mem_of_getElem? (i := 22) rfl))) (Or.inl (hw _ (List.mem_of_getElem? (i := 36) rfl))) (by decide) (t := (.array .long)) (t' := (.array .int)) (by decide) (by decide)))).other W615 (Or.inr (slot_ne (Or.inr (hw _ (List.mem_of_getElem? (i := 22) rfl))) (Or.inl (hw _ (List.mem_of_getElem? (i := 39) rfl))) (by decide) (t := (.array .long)) (t' := .int) (by decide) (by decide)))), (((pL.f_places.keep K561 nin0).other W592 (Or.inr (slot_ne (Or.inl (hw _ (List.mem_of_getElem? (i := 24) rfl))) (Or.inl (hw _ (List.mem_of_getElem? (i := 36) rfl))) (by decide) (t := (.array .int)) (t' := (.array .int)) (by decide) (by decide)))).other W615 (Or.inr (slot_ne (Or.inl (hw _ (List.mem_of_getElem? (i := 24) rfl))) (Or.inl (hw _ (List.mem_of_getElem? (i := 39) rfl))) (by decide) (t := (.array .int)) (t' := .int) (by decide) (by decide)))), (((pL.f_lows.keep K561 nin0).other W592 (Or.inr (slot_ne (Or.inl (hw _ (List.mem_of_getElem? (i := 26) rfl))) (Or.inl (hw _ (List.mem_of_getElem? (i := 36) rfl))) (by decide) (t := (.array .int)) (t' := (.array .int)) (by decide) (by decide)))).other W615 (Or.inr (slot_ne (Or.inl (hw _ (List.mem_of_getElem? (i := 26) rfl))) (Or.inl (hw _ (List.mem_of_getElem? (i := 39) rfl))) (by decide) (t := (.array .int)) (t' := .int) (by decide) (by decide)))), (((pL.f_masks.keep K561 nin0).other W592 (Or.inr (slot_ne (Or.inl (hw _ (List.mem_of_getElem? (i := 28) rfl))) (Or.inl (hw _ (List.mem_of_getElem? (i := 36) rfl))) (by decide) (t := (.array .long)) (t' := (.array .int)) (by decide) (by decide)))).other W615 (Or.inr (slot_ne (Or.inl (hw _ (List.mem_of_getElem? (i := 28) rfl))) (Or.inl (hw _ (List.mem_of_getElem? (i := 39) rfl))) (by decide) (t := (.array .long)) (t' := .int) (by decide) (by decide)))), (((pL.f_words.keep K561 nin0).other W592 (Or.inr (slot_ne (Or.inl (hw _ (List.mem_of_getElem? (i := 30) rfl))) (Or.inl (hw _ (List.mem_of_getElem? (i := 36) rfl))) (by decide) (t := (.array .int)) (t' := (.array .int)) (by decide) (by decide)))).other W615 (Or.inr (slot_ne (Or.inl (hw _ (List.mem_of_getElem? (i := 30) rfl))) (Or.inl (hw _ (List.mem_of_getElem? (i := 39) rfl))) (by decide) (t := (.array .int)) (t' := .int) (by decide) (by decide)))), (((pL.f_shifts.keep K561 nin0).other W592 (Or.inr (slot_ne (Or.inl (hw _ (List.mem_of_getElem? (i := 32) rfl))) (Or.inl (hw _ (List.mem_of_getElem? (i := 36) rfl))) (by decide) (t := (.array .int)) (t' := (.array .int)) (by decide) (by decide)))).other W615 (Or.inr (slot_ne (Or.inl (hw _ (List.mem_of_getElem? (i := 32) rfl))) (Or.inl (hw _ (List.mem_of_getElem? (i := 39) rfl))) (by decide) (t := (.array .int)) (t' := .int) (by decide) (by decide)))), (((pL.f_nexts.keep K561 nin0).other W592 (Or.inr (slot_ne (Or.inl (hw _ (List.mem_of_getElem? (i := 34) rfl))) (Or.inl (hw _ (List.mem_of_getElem? (i := 36) rfl))) (by decide) (t := (.array .int)) (t' := (.array .int)) (by decide) (by decide)))).other W615 (Or.inr (slot_ne (Or.inl (hw _ (List.mem_of_getElem? (i := 34) rfl))) (Or.inl (hw _ (List.mem_of_getElem? (i := 39) rfl))) (by decide) (t := (.array .int)) (t' := .int) (by decide) (by decide)))), (F592.other W615 (Or.inr (slot_ne (Or.inl (hw _ (List.mem_of_getElem? (i := 36) rfl))) (Or.inl (hw _ (List.mem_of_getElem? (i := 39) rfl))) (by decide) (t := (.array .int)) (t' := .int) (by decide) (by decide)))), (((pL.f_pieces.keep K561 nin0).other W592 (Or.inr (slot_ne (Or.inl (hw _ (List.mem_of_getElem? (i := 49) rfl))) (Or.inl (hw _ (List.mem_of_getElem? (i := 36) rfl))) (by decide) (t := .int) (t' := (.array .int)) (by decide) (by decide)))).other W615 (Or.inr (slot_ne (Or.inl (hw _ (List.mem_of_getElem? (i := 49) rfl))) (Or.inl (hw _ (List.mem_of_getElem? (i := 39) rfl))) (by decide) (t := .int) (t' := .int) (by decide) (by decide)))), F615, (((pL.v_limits.keep K561 nin0).other W592 (Ne.symm nd553_01)).other W615 (Ne.symm nd553_01)), (((pL.v_places.keep K561 nin0).other W592 (Ne.symm nd553_02)).other W615 (Ne.symm nd553_02)), (((pL.v_lows.keep K561 nin0).other W592 (Ne.symm nd553_03)).other W615 (Ne.symm nd553_03)), (((pL.v_masks.keep K561 nin0).other W592 (Ne.symm nd553_04)).other W615 (Ne.symm nd553_04)), (((pL.v_words.keep K561 nin0).other W592 (Ne.symm nd553_05)).other W615 (Ne.symm nd553_05)), (((pL.v_shifts.keep K561 nin0).other W592 (Ne.symm nd553_06)).other W615 (Ne.symm nd553_06)), (((pL.v_nexts.keep K561 nin0).other W592 (Ne.symm nd553_07)).other W615 (Ne.symm nd553_07)), (((o561_0.other W592 (Ne.symm ne563)).other W615 (Ne.symm ne563)).pad (o_padT hJn))⟩
        exact k81 _ _ _ ⟨A.l, A.p, A.lo, A.m, A.w, A.s, A.x, n1_561, A.kl, A.kp, A.ko, A.km, A.kw, A.ks, A.kx, kn_561⟩ (2 * C.ts.length) (C.ts.length + 1) (o_mono X615 (by decide) (by decide)) e615 N634 zz615 K635 (o_all9 (P := fun y => y ∈ a1 :: A.all ∨ h0.size ≤ y) (Or.inl (List.mem_of_getElem? (i := 0) rfl)) (Or.inl (List.mem_of_getElem? (i := 1) rfl)) (Or.inl (List.mem_of_getElem? (i := 2) rfl)) (Or.inl (List.mem_of_getElem? (i := 3) rfl)) (Or.inl (List.mem_of_getElem? (i := 4) rfl)) (Or.inl (List.mem_of_getElem? (i := 5) rfl)) (Or.inl (List.mem_of_getElem? (i := 6) rfl)) (Or.inl (List.mem_of_getElem? (i := 7) rfl)) (Or.inr sz561_n1)) hM636 (by rw [o_tslen, if_neg hJn]; exact gT2) (by rw [o_tslen, if_neg hJn]) hJz bz
      · refine o_icmpY X556 hx (hb hby d_prog_12_method_4_code_47) (XT.ii_ne_t hc47) (by decide) (n := 71) (by decide) ?_
        obtain ⟨gT1, gT2⟩ := o_ng hT hc47
        have hJz : o_ff C.ts wd < o_cap C.ts.length := hJl ▸ gT1
        have bz := bcT
        refine o_aloadN X556 hx (hb hby d_prog_12_method_4_code_71) (v := (.ref a1)) rfl rfl (n := 72) rfl ?_
        refine o_dup X556 hx (hb hby d_prog_12_method_4_code_72) rfl (n := 73) rfl ?_
        refine o_getfield X556 hx hZ hown (host := "") (Or.inl (hw _ (List.mem_of_getElem? (i := 38) rfl))) Via.refl e556 pL.f_length (hb hby d_prog_12_method_4_code_73) (n := 76) rfl ?_
        intro T637 X637 e637
        refine o_iconst X637 hx (hb hby d_prog_12_method_4_code_76) (v := (1 : Int32)) rfl (n := 77) rfl ?_
        refine o_iadd X637 hx (hb hby d_prog_12_method_4_code_77) (v := (n32 (C.ts.length + 1))) (o_nadd _ 1) (n := 78) rfl ?_
        refine o_putfield X637 hx hZ hown (host := "") (Or.inl (hw _ (List.mem_of_getElem? (i := 38) rfl))) Via.refl e637 pL.f_length pL.E (Or.inl (hw _ (List.mem_of_getElem? (i := 39) rfl))) (hw _ (List.mem_of_getElem? (i := 1) rfl)) (ty := .int) (by decide) rfl rfl (hb hby d_prog_12_method_4_code_78) (n := 81) rfl ?_
        intro T638 h638 X638 e638 W638 F638 E_638
        have zz638 : n0 ≤ h638.size := Nat.le_trans Z0 (Nat.le_of_eq W638.size.symm)
        have N656 := Fr.snoc X638 N_ (pL.ge _ (List.mem_of_getElem? (i := 0) rfl))
        have K657 : Keep h0 h638 [a1, A.l, A.p, A.lo, A.m, A.w, A.s, A.x, A.t] := (Keep.refl h0 [a1, A.l, A.p, A.lo, A.m, A.w, A.s, A.x, A.t]).wr W638 (Or.inl (List.mem_of_getElem? (i := 0) rfl))
        have hM658 : o_M Z h638 n0 a1 ⟨A.l, A.p, A.lo, A.m, A.w, A.s, A.x, A.t, A.kl, A.kp, A.ko, A.km, A.kw, A.ks, A.kx, A.kt⟩ C (o_cap C.P.length) (o_cap C.ts.length) (C.ts.length + 1) (o_ts1 C.ts (o_ff C.ts wd)) := ⟨(o_nd9 nd553_01 nd553_02 nd553_03 nd553_04 nd553_05 nd553_06 nd553_07 nd553_08 nd553_12 nd553_13 nd553_14 nd553_15 nd553_16 nd553_17 nd553_18 nd553_23 nd553_24 nd553_25 nd553_26 nd553_27 nd553_28 nd553_34 nd553_35 nd553_36 nd553_37 nd553_38 nd553_45 nd553_46 nd553_47 nd553_48 nd553_56 nd553_57 nd553_58 nd553_67 nd553_68 nd553_78), (o_all9 (P := fun y => n0 ≤ y) (pL.ge _ (List.mem_of_getElem? (i := 0) rfl)) (pL.ge _ (List.mem_of_getElem? (i := 1) rfl)) (pL.ge _ (List.mem_of_getElem? (i := 2) rfl)) (pL.ge _ (List.mem_of_getElem? (i := 3) rfl)) (pL.ge _ (List.mem_of_getElem? (i := 4) rfl)) (pL.ge _ (List.mem_of_getElem? (i := 5) rfl)) (pL.ge _ (List.mem_of_getElem? (i := 6) rfl)) (pL.ge _ (List.mem_of_getElem? (i := 7) rfl)) (pL.ge _ (List.mem_of_getElem? (i := 8) rfl))), E_638, (pL.f_limits.other W638 (Or.inr (slot_ne (Or.inr (hw _ (List.mem_of_getElem? (i := 22) rfl))) (Or.inl (hw _ (List.mem_of_getElem? (i := 39) rfl))) (by decide) (t := (.array .long)) (t' := .int) (by decide) (by decide)))), (pL.f_places.other W638 (Or.inr (slot_ne (Or.inl (hw _ (List.mem_of_getElem? (i := 24) rfl))) (Or.inl (hw _ (List.mem_of_getElem? (i := 39) rfl))) (by decide) (t := (.array .int)) (t' := .int) (by decide) (by decide)))), (pL.f_lows.other W638 (Or.inr (slot_ne (Or.inl (hw _ (List.mem_of_getElem? (i := 26) rfl))) (Or.inl (hw _ (List.mem_of_getElem? (i := 39) rfl))) (by decide) (t := (.array .int)) (t' := .int) (by decide) (by decide)))), (pL.f_masks.other W638 (Or.inr (slot_ne (Or.inl (hw _ (List.mem_of_getElem? (i := 28) rfl))) (Or.inl (hw _ (List.mem_of_getElem? (i := 39) rfl))) (by decide) (t := (.array .long)) (t' := .int) (by decide) (by decide)))), (pL.f_words.other W638 (Or.inr (slot_ne (Or.inl (hw _ (List.mem_of_getElem? (i := 30) rfl))) (Or.inl (hw _ (List.mem_of_getElem? (i := 39) rfl))) (by decide) (t := (.array .int)) (t' := .int) (by decide) (by decide)))), (pL.f_shifts.other W638 (Or.inr (slot_ne (Or.inl (hw _ (List.mem_of_getElem? (i := 32) rfl))) (Or.inl (hw _ (List.mem_of_getElem? (i := 39) rfl))) (by decide) (t := (.array .int)) (t' := .int) (by decide) (by decide)))), (pL.f_nexts.other W638 (Or.inr (slot_ne (Or.inl (hw _ (List.mem_of_getElem? (i := 34) rfl))) (Or.inl (hw _ (List.mem_of_getElem? (i := 39) rfl))) (by decide) (t := (.array .int)) (t' := .int) (by decide) (by decide)))), (pL.f_tops.other W638 (Or.inr (slot_ne (Or.inl (hw _ (List.mem_of_getElem? (i := 36) rfl))) (Or.inl (hw _ (List.mem_of_getElem? (i := 39) rfl))) (by decide) (t := (.array .int)) (t' := .int) (by decide) (by decide)))), (pL.f_pieces.other W638 (Or.inr (slot_ne (Or.inl (hw _ (List.mem_of_getElem? (i := 49) rfl))) (Or.inl (hw _ (List.mem_of_getElem? (i := 39) rfl))) (by decide) (t := .int) (t' := .int) (by decide) (by decide)))), F638, (pL.v_limits.other W638 (Ne.symm nd553_01)), (pL.v_places.other W638 (Ne.symm nd553_02)), (pL.v_lows.other W638 (Ne.symm nd553_03)), (pL.v_masks.other W638 (Ne.symm nd553_04)), (pL.v_words.other W638 (Ne.symm nd553_05)), (pL.v_shifts.other W638 (Ne.symm nd553_06)), (pL.v_nexts.other W638 (Ne.symm nd553_07)), ((pL.v_tops.other W638 (Ne.symm nd553_08)).pad (o_padT hJn))⟩
        exact k81 _ _ _ ⟨A.l, A.p, A.lo, A.m, A.w, A.s, A.x, A.t, A.kl, A.kp, A.ko, A.km, A.kw, A.ks, A.kx, A.kt⟩ (o_cap C.ts.length) (C.ts.length + 1) (o_mono X638 (by decide) (by decide)) e638 N656 zz638 K657 (o_all9 (P := fun y => y ∈ a1 :: A.all ∨ h0.size ≤ y) (Or.inl (List.mem_of_getElem? (i := 0) rfl)) (Or.inl (List.mem_of_getElem? (i := 1) rfl)) (Or.inl (List.mem_of_getElem? (i := 2) rfl)) (Or.inl (List.mem_of_getElem? (i := 3) rfl)) (Or.inl (List.mem_of_getElem? (i := 4) rfl)) (Or.inl (List.mem_of_getElem? (i := 5) rfl)) (Or.inl (List.mem_of_getElem? (i := 6) rfl)) (Or.inl (List.mem_of_getElem? (i := 7) rfl)) (Or.inl (List.mem_of_getElem? (i := 8) rfl))) hM658 (by rw [o_tslen, if_neg hJn]; exact gT2) (by rw [o_tslen, if_neg hJn]) hJz bz
    | succ k ih =>
      intro i T_ Lc hik hff X_ e_ N_
      refine o_iload X_ hx (hb hby d_prog_12_method_4_code_0) (v := (n32 i)) rfl (n := 2) rfl ?_
      have hi : i < C.ts.length := Nat.lt_of_lt_of_eq (Nat.lt_add_of_pos_right (Nat.succ_pos k)) hik
      refine o_aloadN X_ hx (hb hby d_prog_12_method_4_code_2) (v := (.ref a1)) rfl rfl (n := 3) rfl ?_
      refine o_getfield X_ hx hZ hown (host := "") (Or.inl (hw _ (List.mem_of_getElem? (i := 38) rfl))) Via.refl e_ pL.f_length (hb hby d_prog_12_method_4_code_3) (n := 6) rfl ?_
      intro T659 X659 e659
      refine o_icmpN X659 hx (hb hby d_prog_12_method_4_code_6) (XT.ii_ge_f (o_ltT hi bT)) (n := 9) rfl ?_
      refine o_aloadN X659 hx (hb hby d_prog_12_method_4_code_9) (v := (.ref a1)) rfl rfl (n := 10) rfl ?_
      refine o_getfield X659 hx hZ hown (host := "") (Or.inl (hw _ (List.mem_of_getElem? (i := 35) rfl))) Via.refl e659 pL.f_tops (hb hby d_prog_12_method_4_code_10) (n := 13) rfl ?_
      intro T660 X660 e660
      refine o_iload X660 hx (hb hby d_prog_12_method_4_code_13) (v := (n32 i)) rfl (n := 15) rfl ?_
      refine o_iaload X660 hx hZ e660 pL.v_tops (i) (o_nt (Nat.lt_trans hi bT)) (o_ix (Nat.lt_of_lt_of_le hi lT) bcT) (v := (.int (n32 (C.ts.getD i 0)))) (o_mgd _ _) (hb hby d_prog_12_method_4_code_15) (n := 16) rfl ?_
      refine o_iloadN X660 hx (hb hby d_prog_12_method_4_code_16) (v := (n32 wd)) rfl (n := 17) rfl ?_
      refine o_iadd X660 hx (hb hby d_prog_12_method_4_code_17) (v := (n32 (C.ts.getD i 0 + wd))) (o_nadd _ _) (n := 18) rfl ?_
      refine o_bipush X660 hx (hb hby d_prog_12_method_4_code_18) (v := (64 : Int32)) rfl (n := 20) rfl ?_
      by_cases hc20 : (64 : Int32) < (n32 (C.ts.getD i 0 + wd))
      · refine o_icmpN X660 hx (hb hby d_prog_12_method_4_code_20) (XT.ii_le_f hc20) (n := 23) rfl ?_
        refine o_iinc X660 hx (hb hby d_prog_12_method_4_code_23) (w := (n32 (i + 1))) rfl (o_nadd i 1) (Ls' := #[.val (.ref a1), .val (.int (n32 pl)), .val (.int (n32 lo)), .val (.int (n32 wd)), .val (.int (n32 (i + 1))), .unset]) rfl (n := 26) rfl ?_
        refine o_goto X660 hx (hb hby d_prog_12_method_4_code_26) (by decide) (n := 0) (by decide) ?_
        have hff' : o_ffk C.ts wd (i + 1) k = o_ff C.ts wd := by rw [← hff, o_ffk, if_neg ((o_fit I hwd).mp hc20)]
        exact ih (i + 1) _ _ ((Nat.add_right_comm _ 1 _).trans hik) hff' X660 e660 N_
      · refine o_icmpY X660 hx (hb hby d_prog_12_method_4_code_20) (XT.ii_le_t hc20) (by decide) (n := 29) (by decide) ?_
        obtain rfl : i = o_ff C.ts wd := by rw [← hff, o_ffk, if_pos (Decidable.not_not.mp fun z => hc20 ((o_fit I hwd).mpr z))]
        have hJl : o_ff C.ts wd < C.ts.length := hi
        have hJz := Nat.lt_of_lt_of_le hJl lT
        have bz := bcT
        show Goes p e below s _ _ _ (T660.setTop (mkF m 29 #[.val (.ref a1), .val (.int (n32 pl)), .val (.int (n32 lo)), .val (.int (n32 wd)), .val (.int (n32 (o_ff C.ts wd))), .unset] []))
        refine o_iload X660 hx (hb hby d_prog_12_method_4_code_29) (v := (n32 (o_ff C.ts wd))) rfl (n := 31) rfl ?_
        refine o_aloadN X660 hx (hb hby d_prog_12_method_4_code_31) (v := (.ref a1)) rfl rfl (n := 32) rfl ?_
        refine o_getfield X660 hx hZ hown (host := "") (Or.inl (hw _ (List.mem_of_getElem? (i := 38) rfl))) Via.refl e660 pL.f_length (hb hby d_prog_12_method_4_code_32) (n := 35) rfl ?_
        intro T661 X661 e661
        refine o_icmpY X661 hx (hb hby d_prog_12_method_4_code_35) (XT.ii_ne_t (o_eqF hJl bT)) (by decide) (n := 81) (by decide) ?_
        exact k81 _ _ _ A (o_cap C.ts.length) C.ts.length (o_mono X661 (by decide) (by decide)) e661 N_ Z0 (Keep.refl h0 [a1, A.l, A.p, A.lo, A.m, A.w, A.s, A.x, A.t]) (fun y hy => Or.inl hy) (pL.toM hJl) (by rw [o_tslen, if_pos hJl]) (by rw [o_tslen, if_pos hJl]) hJz bz
  exact lp551 _ 0 _ _ (Nat.zero_add _) rfl X0 e0 N0
theorem o_ef13 (m : MethodId) (a1 : Addr) (pl : Nat) (lo : Nat) (wd : Nat) : entryFrame m #[(.ref a1), (.int (n32 pl)), (.int (n32 lo)), (.int (n32 wd)), (.int (0 : Int32))] 6 = mkF m 0 #[.val (.ref a1), .val (.int (n32 pl)), .val (.int (n32 lo)), .val (.int (n32 wd)), .val (.int (0 : Int32)), .unset] [] := by first | (simp [entryFrame, mkF, argsToLocals, Value.category]; done) | rfl
set_option maxRecDepth 65536 in
set_option maxHeartbeats 40000000 in
theorem c_addN (l : Launch) (Z : State) (a0 : Array Value) (hw : ∀ d ∈ tables_1, d.before a0 Z = true) (a1 : Addr) (A : o_A) (C : o_C) (pl lo wd : Nat) (h0 : Heap) (n0 : Nat) (Z0 : n0 ≤ h0.size) (pL : o_L Z h0 n0 a1 A C) (I : o_Inv C) (hn : C.P.length ≤ 5) (hwd : wd ≤ 64) (ngT : C.ts.length < o_cap C.ts.length) (ngP : C.P.length < o_cap C.P.length) :
    Does l Z (⟨"com/example/marke/marke/analysis/MarkingLayout", "addPiece", "(IIII)I"⟩ : MethodName) prog_12_method_4_code 6 (some .int) [] ({ frames := 0, cells := 0, slots := 0, locals := 0 } : Room) #[(.ref a1), (.int (n32 pl)), (.int (n32 lo)), (.int (n32 wd)), (.int (0 : Int32))] h0 (fun v h L => ∃ A' : o_A, v = some (.int (n32 C.P.length)) ∧ Fr n0 L ∧ Keep h0 h (a1 :: A.all) ∧ (∀ y ∈ a1 :: A'.all, y ∈ a1 :: A.all ∨ h0.size ≤ y) ∧ o_L Z h n0 a1 A' (o_add C pl lo wd)) := by
  refine Does.of (plainFor_of_name o_pn3) ?_
  intro p e s m below meth c T0 hx hby hml hown hnm hret hlk hZ X0 e0
  have hown : s.vm.findClass "com/example/marke/marke/analysis/MarkingLayout" = some m.cls := hown
  have hml : c.maxLocals = 6 := hml
  have hret : meth.sig.returnType = some .int := hret
  refine o_entry (o_ef13 m a1 pl lo wd) ?_
  have N0 := Fr.nil n0
  obtain ⟨hT, bT, bcT, lT, bP, bcP, lP⟩ := o_bnd I hn
  have hc47 := o_eqF ngT bcT
  have hc90 := o_eqF ngP bcP
  have k183 : ∀ (T_ : State) (h_ : Heap) (Lc : List Loc) (B : o_A) (zP : Nat) (zT : Nat) (tl : Nat) (sl5 : Slot), Stand p l e (({ frames := 0, cells := 0, slots := 0, locals := 0 } : Room)) s m #[(.ref a1), (.int (n32 pl)), (.int (n32 lo)), (.int (n32 wd)), (.int (0 : Int32))] below meth c T_ Lc 0 0 → T_.heap = h_ → Fr n0 Lc → n0 ≤ h_.size → Keep h0 h_ [a1, A.l, A.p, A.lo, A.m, A.w, A.s, A.x, A.t] → (∀ y ∈ a1 :: B.all, y ∈ a1 :: A.all ∨ h0.size ≤ y) → (o_M Z h_ n0 a1 B C zP zT tl (o_ts1 C.ts (o_ff C.ts wd))) → (o_cap (o_ts C.ts wd).length = zT) → ((o_ts C.ts wd).length = tl) → ((o_ff C.ts wd) < zT) → (zT < 2147483648) → (o_cap (C.P.length + 1) = zP) → (C.P.length < zP) → (zP < 2147483648) → Goes p e below s (fun v h L => ∃ A' : o_A, v = some (.int (n32 C.P.length)) ∧ Fr n0 L ∧ Keep h0 h (a1 :: A.all) ∧ (∀ y ∈ a1 :: A'.all, y ∈ a1 :: A.all ∨ h0.size ≤ y) ∧ o_L Z h n0 a1 A' (o_add C pl lo wd)) (({ frames := 0, cells := 0, slots := 0, locals := 0 } : Room)).cells (({ frames := 0, cells := 0, slots := 0, locals := 0 } : Room)).slots (T_.setTop (mkF m 183 #[.val (.ref a1), .val (.int (n32 pl)), .val (.int (n32 lo)), .val (.int (n32 wd)), .val (.int (n32 (o_ff C.ts wd))), sl5] [])) := by
    intro T_ h_ Lc B zP zT tl sl5 X_ e_ N_ zz_ K_ hsub hM hzT htl hJz bz hzP hPz bzP
    obtain ⟨nd1_01, nd1_02, nd1_03, nd1_04, nd1_05, nd1_06, nd1_07, nd1_08, nd1_12, nd1_13, nd1_14, nd1_15, nd1_16, nd1_17, nd1_18, nd1_23, nd1_24, nd1_25, nd1_26, nd1_27, nd1_28, nd1_34, nd1_35, nd1_36, nd1_37, nd1_38, nd1_45, nd1_46, nd1_47, nd1_48, nd1_56, nd1_57, nd1_58, nd1_67, nd1_68, nd1_78⟩ := o_nd36 hM.nd
    refine o_aloadN X_ hx (hb hby d_prog_12_method_4_code_183) (v := (.ref a1)) rfl rfl (n := 184) rfl ?_
    refine o_getfield X_ hx hZ hown (host := "") (Or.inl (hw _ (List.mem_of_getElem? (i := 23) rfl))) Via.refl e_ hM.f_places (hb hby d_prog_12_method_4_code_184) (n := 187) rfl ?_
    intro T2 X2 e2
    refine o_aloadN X2 hx (hb hby d_prog_12_method_4_code_187) (v := (.ref a1)) rfl rfl (n := 188) rfl ?_
    refine o_getfield X2 hx hZ hown (host := "") (Or.inl (hw _ (List.mem_of_getElem? (i := 48) rfl))) Via.refl e2 hM.f_pieces (hb hby d_prog_12_method_4_code_188) (n := 191) rfl ?_
    intro T3 X3 e3
    refine o_iloadN X3 hx (hb hby d_prog_12_method_4_code_191) (v := (n32 pl)) rfl (n := 192) rfl ?_
    have f5 := hM.v_places.pad (pad_rep _ _ 1)
    refine o_iastore X3 hx hZ e3 f5 (C.P.length) (o_nt bP) (o_ix hPz bzP) (by simp) (w := (.int (n32 pl))) rfl (vs' := ((C.P ++ [o_pc C pl lo wd]).map fun (q : o_P) => .int (n32 q.pl))) (o_snoc (fun q : o_P => (.int (n32 q.pl) : Value)) C.P (o_pc C pl lo wd) (.int 0)) (hb hby d_prog_12_method_4_code_192) (n := 193) rfl ?_
    intro T4 h4 X4 e4 W4 V4
    have zz4 : n0 ≤ h4.size := Nat.le_trans zz_ (Nat.le_of_eq W4.size.symm)
    have N24 := Fr.snoc X4 N_ (hM.ge _ (List.mem_of_getElem? (i := 2) rfl))
    have K25 : Keep h0 h4 [a1, A.l, A.p, A.lo, A.m, A.w, A.s, A.x, A.t] := K_.wr W4 (hsub _ (List.mem_of_getElem? (i := 2) rfl))
    refine o_aloadN X4 hx (hb hby d_prog_12_method_4_code_193) (v := (.ref a1)) rfl rfl (n := 194) rfl ?_
    refine o_getfield X4 hx hZ hown (host := "") (Or.inl (hw _ (List.mem_of_getElem? (i := 25) rfl))) Via.refl e4 (hM.f_lows.other W4 (Or.inl nd1_02)) (hb hby d_prog_12_method_4_code_194) (n := 197) rfl ?_
    intro T26 X26 e26
    refine o_aloadN X26 hx (hb hby d_prog_12_method_4_code_197) (v := (.ref a1)) rfl rfl (n := 198) rfl ?_
    refine o_getfield X26 hx hZ hown (host := "") (Or.inl (hw _ (List.mem_of_getElem? (i := 48) rfl))) Via.refl e26 (hM.f_pieces.other W4 (Or.inl nd1_02)) (hb hby d_prog_12_method_4_code_198) (n := 201) rfl ?_
    intro T27 X27 e27
    refine o_iloadN X27 hx (hb hby d_prog_12_method_4_code_201) (v := (n32 lo)) rfl (n := 202) rfl ?_
    have f29 := (hM.v_lows.other W4 (Ne.symm nd1_23)).pad (pad_rep _ _ 1)
    refine o_iastore X27 hx hZ e27 f29 (C.P.length) (o_nt bP) (o_ix hPz bzP) (by simp) (w := (.int (n32 lo))) rfl (vs' := ((C.P ++ [o_pc C pl lo wd]).map fun (q : o_P) => .int (n32 q.lo))) (o_snoc (fun q : o_P => (.int (n32 q.lo) : Value)) C.P (o_pc C pl lo wd) (.int 0)) (hb hby d_prog_12_method_4_code_202) (n := 203) rfl ?_
    intro T28 h28 X28 e28 W28 V28
    have zz28 : n0 ≤ h28.size := Nat.le_trans zz4 (Nat.le_of_eq W28.size.symm)
    have N48 := Fr.snoc X28 N24 (hM.ge _ (List.mem_of_getElem? (i := 3) rfl))
    have K49 : Keep h0 h28 [a1, A.l, A.p, A.lo, A.m, A.w, A.s, A.x, A.t] := K25.wr W28 (hsub _ (List.mem_of_getElem? (i := 3) rfl))
    refine o_aloadN X28 hx (hb hby d_prog_12_method_4_code_203) (v := (.ref a1)) rfl rfl (n := 204) rfl ?_
    have f50 := ((hM.f_masks.other W4 (Or.inl nd1_02)).other W28 (Or.inl nd1_03))
    refine o_getfield X28 hx hZ hown (host := "") (Or.inl (hw _ (List.mem_of_getElem? (i := 27) rfl))) Via.refl e28 f50 (hb hby d_prog_12_method_4_code_204) (n := 207) rfl ?_
    intro T51 X51 e51
    refine o_aloadN X51 hx (hb hby d_prog_12_method_4_code_207) (v := (.ref a1)) rfl rfl (n := 208) rfl ?_
    have f52 := ((hM.f_pieces.other W4 (Or.inl nd1_02)).other W28 (Or.inl nd1_03))
    refine o_getfield X51 hx hZ hown (host := "") (Or.inl (hw _ (List.mem_of_getElem? (i := 48) rfl))) Via.refl e51 f52 (hb hby d_prog_12_method_4_code_208) (n := 211) rfl ?_
    intro T53 X53 e53
    refine o_ldc2_w X53 hx hZ (v := (-1 : Int64)) hown (hw _ (List.mem_of_getElem? (i := 37) rfl)) (hb hby d_prog_12_method_4_code_211) (n := 214) rfl ?_
    refine o_bipush X53 hx (hb hby d_prog_12_method_4_code_214) (v := (64 : Int32)) rfl (n := 216) rfl ?_
    refine o_iloadN X53 hx (hb hby d_prog_12_method_4_code_216) (v := (n32 wd)) rfl (n := 217) rfl ?_
    refine o_isub X53 hx (hb hby d_prog_12_method_4_code_217) (v := ((64 : Int32) - (n32 wd))) rfl (n := 218) rfl ?_
    refine o_lushr X53 hx (hb hby d_prog_12_method_4_code_218) (v := (o_mk (n32 wd))) rfl (n := 219) rfl ?_
    have f54 := ((hM.v_masks.other W4 (Ne.symm nd1_24)).other W28 (Ne.symm nd1_34))
    have f56 := f54.pad (pad_rep _ _ 1)
    refine o_lastore X53 hx hZ e53 f56 (C.P.length) (o_nt bP) (o_ix hPz bzP) (by simp) (w := (.long (o_mk (n32 wd)))) rfl (vs' := ((C.P ++ [o_pc C pl lo wd]).map fun (q : o_P) => .long (o_mk (n32 q.wd)))) (o_snoc (fun q : o_P => (.long (o_mk (n32 q.wd)) : Value)) C.P (o_pc C pl lo wd) (.long 0)) (hb hby d_prog_12_method_4_code_219) (n := 220) rfl ?_
    intro T55 h55 X55 e55 W55 V55
    have zz55 : n0 ≤ h55.size := Nat.le_trans zz28 (Nat.le_of_eq W55.size.symm)
    have N75 := Fr.snoc X55 N48 (hM.ge _ (List.mem_of_getElem? (i := 4) rfl))
    have K76 : Keep h0 h55 [a1, A.l, A.p, A.lo, A.m, A.w, A.s, A.x, A.t] := K49.wr W55 (hsub _ (List.mem_of_getElem? (i := 4) rfl))
    refine o_aloadN X55 hx (hb hby d_prog_12_method_4_code_220) (v := (.ref a1)) rfl rfl (n := 221) rfl ?_
    have f77 := (((hM.f_words.other W4 (Or.inl nd1_02)).other W28 (Or.inl nd1_03)).other W55 (Or.inl nd1_04))
    refine o_getfield X55 hx hZ hown (host := "") (Or.inl (hw _ (List.mem_of_getElem? (i := 29) rfl))) Via.refl e55 f77 (hb hby d_prog_12_method_4_code_221) (n := 224) rfl ?_
    intro T78 X78 e78
    refine o_aloadN X78 hx (hb hby d_prog_12_method_4_code_224) (v := (.ref a1)) rfl rfl (n := 225) rfl ?_
    refine o_getfield X78 hx hZ hown (host := "") (Or.inl (hw _ (List.mem_of_getElem? (i := 48) rfl))) Via.refl e78 (f52.other W55 (Or.inl nd1_04)) (hb hby d_prog_12_method_4_code_225) (n := 228) rfl ?_
    intro T79 X79 e79
    refine o_iload X79 hx (hb hby d_prog_12_method_4_code_228) (v := (n32 (o_ff C.ts wd))) rfl (n := 230) rfl ?_
    have f80 := (((hM.v_words.other W4 (Ne.symm nd1_25)).other W28 (Ne.symm nd1_35)).other W55 (Ne.symm nd1_45))
    have f82 := f80.pad (pad_rep _ _ 1)
    refine o_iastore X79 hx hZ e79 f82 (C.P.length) (o_nt bP) (o_ix hPz bzP) (by simp) (w := (.int (n32 (o_ff C.ts wd)))) rfl (vs' := ((C.P ++ [o_pc C pl lo wd]).map fun (q : o_P) => .int (n32 q.wo))) (o_snoc (fun q : o_P => (.int (n32 q.wo) : Value)) C.P (o_pc C pl lo wd) (.int 0)) (hb hby d_prog_12_method_4_code_230) (n := 231) rfl ?_
    intro T81 h81 X81 e81 W81 V81
    have zz81 : n0 ≤ h81.size := Nat.le_trans zz55 (Nat.le_of_eq W81.size.symm)
    have N101 := Fr.snoc X81 N75 (hM.ge _ (List.mem_of_getElem? (i := 5) rfl))
    have K102 : Keep h0 h81 [a1, A.l, A.p, A.lo, A.m, A.w, A.s, A.x, A.t] := K76.wr W81 (hsub _ (List.mem_of_getElem? (i := 5) rfl))
    refine o_aloadN X81 hx (hb hby d_prog_12_method_4_code_231) (v := (.ref a1)) rfl rfl (n := 232) rfl ?_
    have f103 := ((((hM.f_shifts.other W4 (Or.inl nd1_02)).other W28 (Or.inl nd1_03)).other W55 (Or.inl nd1_04)).other W81 (Or.inl nd1_05))
    refine o_getfield X81 hx hZ hown (host := "") (Or.inl (hw _ (List.mem_of_getElem? (i := 31) rfl))) Via.refl e81 f103 (hb hby d_prog_12_method_4_code_232) (n := 235) rfl ?_
    intro T104 X104 e104
    refine o_aloadN X104 hx (hb hby d_prog_12_method_4_code_235) (v := (.ref a1)) rfl rfl (n := 236) rfl ?_
    refine o_getfield X104 hx hZ hown (host := "") (Or.inl (hw _ (List.mem_of_getElem? (i := 48) rfl))) Via.refl e104 ((f52.other W55 (Or.inl nd1_04)).other W81 (Or.inl nd1_05)) (hb hby d_prog_12_method_4_code_236) (n := 239) rfl ?_
    intro T105 X105 e105
    refine o_aloadN X105 hx (hb hby d_prog_12_method_4_code_239) (v := (.ref a1)) rfl rfl (n := 240) rfl ?_
    have f106 := ((((hM.f_tops.other W4 (Or.inl nd1_02)).other W28 (Or.inl nd1_03)).other W55 (Or.inl nd1_04)).other W81 (Or.inl nd1_05))
    refine o_getfield X105 hx hZ hown (host := "") (Or.inl (hw _ (List.mem_of_getElem? (i := 35) rfl))) Via.refl e105 f106 (hb hby d_prog_12_method_4_code_240) (n := 243) rfl ?_
    intro T107 X107 e107
    refine o_iload X107 hx (hb hby d_prog_12_method_4_code_243) (v := (n32 (o_ff C.ts wd))) rfl (n := 245) rfl ?_
    have f108 := ((((hM.v_tops.other W4 (Ne.symm nd1_28)).other W28 (Ne.symm nd1_38)).other W55 (Ne.symm nd1_48)).other W81 (Ne.symm nd1_58))
    refine o_iaload X107 hx hZ e107 f108 ((o_ff C.ts wd)) (o_nt (Nat.lt_trans hJz bz)) (o_ix hJz bz) (v := (.int (n32 (C.ts.getD (o_ff C.ts wd) 0)))) (o_tsG _ _) (hb hby d_prog_12_method_4_code_245) (n := 246) rfl ?_
    have f109 := ((((hM.v_shifts.other W4 (Ne.symm nd1_26)).other W28 (Ne.symm nd1_36)).other W55 (Ne.symm nd1_46)).other W81 (Ne.symm nd1_56))
    have f111 := f109.pad (pad_rep _ _ 1)
    refine o_iastore X107 hx hZ e107 f111 (C.P.length) (o_nt bP) (o_ix hPz bzP) (by simp) (w := (.int (n32 (C.ts.getD (o_ff C.ts wd) 0)))) rfl (vs' := ((C.P ++ [o_pc C pl lo wd]).map fun (q : o_P) => .int (n32 q.sh))) (o_snoc (fun q : o_P => (.int (n32 q.sh) : Value)) C.P (o_pc C pl lo wd) (.int 0)) (hb hby d_prog_12_method_4_code_246) (n := 247) rfl ?_
    intro T110 h110 X110 e110 W110 V110
    have zz110 : n0 ≤ h110.size := Nat.le_trans zz81 (Nat.le_of_eq W110.size.symm)
    have N130 := Fr.snoc X110 N101 (hM.ge _ (List.mem_of_getElem? (i := 6) rfl))
    have K131 : Keep h0 h110 [a1, A.l, A.p, A.lo, A.m, A.w, A.s, A.x, A.t] := K102.wr W110 (hsub _ (List.mem_of_getElem? (i := 6) rfl))
    refine o_aloadN X110 hx (hb hby d_prog_12_method_4_code_247) (v := (.ref a1)) rfl rfl (n := 248) rfl ?_
    refine o_getfield X110 hx hZ hown (host := "") (Or.inl (hw _ (List.mem_of_getElem? (i := 35) rfl))) Via.refl e110 (f106.other W110 (Or.inl nd1_06)) (hb hby d_prog_12_method_4_code_248) (n := 251) rfl ?_
    intro T132 X132 e132
    refine o_iload X132 hx (hb hby d_prog_12_method_4_code_251) (v := (n32 (o_ff C.ts wd))) rfl (n := 253) rfl ?_
    refine o_dup2 X132 hx (hb hby d_prog_12_method_4_code_253) rfl rfl (n := 254) rfl ?_
    refine o_iaload X132 hx hZ e132 (f108.other W110 (Ne.symm nd1_68)) ((o_ff C.ts wd)) (o_nt (Nat.lt_trans hJz bz)) (o_ix hJz bz) (v := (.int (n32 (C.ts.getD (o_ff C.ts wd) 0)))) (o_tsG _ _) (hb hby d_prog_12_method_4_code_254) (n := 255) rfl ?_
    refine o_iloadN X132 hx (hb hby d_prog_12_method_4_code_255) (v := (n32 wd)) rfl (n := 256) rfl ?_
    refine o_iadd X132 hx (hb hby d_prog_12_method_4_code_256) (v := (n32 (C.ts.getD (o_ff C.ts wd) 0 + wd))) (o_nadd _ _) (n := 257) rfl ?_
    refine o_iastore X132 hx hZ e132 (f108.other W110 (Ne.symm nd1_68)) ((o_ff C.ts wd)) (o_nt (Nat.lt_trans hJz bz)) (o_ix hJz bz) (o_tsH _ _) (w := (.int (n32 (C.ts.getD (o_ff C.ts wd) 0 + wd)))) rfl (vs' := ((o_ts C.ts wd).map fun t => .int (n32 t))) (o_tsS _ _) (hb hby d_prog_12_method_4_code_257) (n := 258) rfl ?_
    intro T133 h133 X133 e133 W133 V133
    have zz133 : n0 ≤ h133.size := Nat.le_trans zz110 (Nat.le_of_eq W133.size.symm)
    have N152 := Fr.snoc X133 N130 (hM.ge _ (List.mem_of_getElem? (i := 8) rfl))
    have K153 : Keep h0 h133 [a1, A.l, A.p, A.lo, A.m, A.w, A.s, A.x, A.t] := K131.wr W133 (hsub _ (List.mem_of_getElem? (i := 8) rfl))
    refine o_aloadN X133 hx (hb hby d_prog_12_method_4_code_258) (v := (.ref a1)) rfl rfl (n := 259) rfl ?_
    refine o_dup X133 hx (hb hby d_prog_12_method_4_code_259) rfl (n := 260) rfl ?_
    have f154 := ((((f52.other W55 (Or.inl nd1_04)).other W81 (Or.inl nd1_05)).other W110 (Or.inl nd1_06)).other W133 (Or.inl nd1_08))
    refine o_getfield X133 hx hZ hown (host := "") (Or.inl (hw _ (List.mem_of_getElem? (i := 48) rfl))) Via.refl e133 f154 (hb hby d_prog_12_method_4_code_260) (n := 263) rfl ?_
    intro T155 X155 e155
    refine o_dup_x1 X155 hx (hb hby d_prog_12_method_4_code_263) rfl rfl (n := 264) rfl ?_
    refine o_iconst X155 hx (hb hby d_prog_12_method_4_code_264) (v := (1 : Int32)) rfl (n := 265) rfl ?_
    refine o_iadd X155 hx (hb hby d_prog_12_method_4_code_265) (v := (n32 (C.P.length + 1))) (o_nadd _ 1) (n := 266) rfl ?_
    refine o_putfield X155 hx hZ hown (host := "") (Or.inl (hw _ (List.mem_of_getElem? (i := 48) rfl))) Via.refl e155 f154 ((((((hM.E.wr W4).wr W28).wr W55).wr W81).wr W110).wr W133) (Or.inl (hw _ (List.mem_of_getElem? (i := 49) rfl))) (hw _ (List.mem_of_getElem? (i := 1) rfl)) (ty := .int) (by decide) rfl rfl (hb hby d_prog_12_method_4_code_266) (n := 269) rfl ?_
    intro T156 h156 X156 e156 W156 F156 E_156
    have zz156 : n0 ≤ h156.size := Nat.le_trans zz133 (Nat.le_of_eq W156.size.symm)
    have N174 := Fr.snoc X156 N152 (hM.ge _ (List.mem_of_getElem? (i := 0) rfl))
    have K175 : Keep h0 h156 [a1, A.l, A.p, A.lo, A.m, A.w, A.s, A.x, A.t] := K153.wr W156 (hsub _ (List.mem_of_getElem? (i := 0) rfl))
    have hLL : o_L Z h156 n0 a1 B (o_add C pl lo wd) := o_mkL zP zT tl hzP hzT htl hM.nd hM.ge E_156 (((((((hM.f_limits.other W4 (Or.inl nd1_02)).other W28 (Or.inl nd1_03)).other W55 (Or.inl nd1_04)).other W81 (Or.inl nd1_05)).other W110 (Or.inl nd1_06)).other W133 (Or.inl nd1_08)).other W156 (Or.inr (slot_ne (Or.inr (hw _ (List.mem_of_getElem? (i := 22) rfl))) (Or.inl (hw _ (List.mem_of_getElem? (i := 49) rfl))) (by decide) (t := (.array .long)) (t' := .int) (by decide) (by decide)))) (((((((hM.f_places.other W4 (Or.inl nd1_02)).other W28 (Or.inl nd1_03)).other W55 (Or.inl nd1_04)).other W81 (Or.inl nd1_05)).other W110 (Or.inl nd1_06)).other W133 (Or.inl nd1_08)).other W156 (Or.inr (slot_ne (Or.inl (hw _ (List.mem_of_getElem? (i := 24) rfl))) (Or.inl (hw _ (List.mem_of_getElem? (i := 49) rfl))) (by decide) (t := (.array .int)) (t' := .int) (by decide) (by decide)))) (((((((hM.f_lows.other W4 (Or.inl nd1_02)).other W28 (Or.inl nd1_03)).other W55 (Or.inl nd1_04)).other W81 (Or.inl nd1_05)).other W110 (Or.inl nd1_06)).other W133 (Or.inl nd1_08)).other W156 (Or.inr (slot_ne (Or.inl (hw _ (List.mem_of_getElem? (i := 26) rfl))) (Or.inl (hw _ (List.mem_of_getElem? (i := 49) rfl))) (by decide) (t := (.array .int)) (t' := .int) (by decide) (by decide)))) (((((f50.other W55 (Or.inl nd1_04)).other W81 (Or.inl nd1_05)).other W110 (Or.inl nd1_06)).other W133 (Or.inl nd1_08)).other W156 (Or.inr (slot_ne (Or.inl (hw _ (List.mem_of_getElem? (i := 28) rfl))) (Or.inl (hw _ (List.mem_of_getElem? (i := 49) rfl))) (by decide) (t := (.array .long)) (t' := .int) (by decide) (by decide)))) ((((f77.other W81 (Or.inl nd1_05)).other W110 (Or.inl nd1_06)).other W133 (Or.inl nd1_08)).other W156 (Or.inr (slot_ne (Or.inl (hw _ (List.mem_of_getElem? (i := 30) rfl))) (Or.inl (hw _ (List.mem_of_getElem? (i := 49) rfl))) (by decide) (t := (.array .int)) (t' := .int) (by decide) (by decide)))) (((f103.other W110 (Or.inl nd1_06)).other W133 (Or.inl nd1_08)).other W156 (Or.inr (slot_ne (Or.inl (hw _ (List.mem_of_getElem? (i := 32) rfl))) (Or.inl (hw _ (List.mem_of_getElem? (i := 49) rfl))) (by decide) (t := (.array .int)) (t' := .int) (by decide) (by decide)))) (((((((hM.f_nexts.other W4 (Or.inl nd1_02)).other W28 (Or.inl nd1_03)).other W55 (Or.inl nd1_04)).other W81 (Or.inl nd1_05)).other W110 (Or.inl nd1_06)).other W133 (Or.inl nd1_08)).other W156 (Or.inr (slot_ne (Or.inl (hw _ (List.mem_of_getElem? (i := 34) rfl))) (Or.inl (hw _ (List.mem_of_getElem? (i := 49) rfl))) (by decide) (t := (.array .int)) (t' := .int) (by decide) (by decide)))) (((f106.other W110 (Or.inl nd1_06)).other W133 (Or.inl nd1_08)).other W156 (Or.inr (slot_ne (Or.inl (hw _ (List.mem_of_getElem? (i := 36) rfl))) (Or.inl (hw _ (List.mem_of_getElem? (i := 49) rfl))) (by decide) (t := (.array .int)) (t' := .int) (by decide) (by decide)))) F156 (((((((hM.f_length.other W4 (Or.inl nd1_02)).other W28 (Or.inl nd1_03)).other W55 (Or.inl nd1_04)).other W81 (Or.inl nd1_05)).other W110 (Or.inl nd1_06)).other W133 (Or.inl nd1_08)).other W156 (Or.inr (slot_ne (Or.inl (hw _ (List.mem_of_getElem? (i := 39) rfl))) (Or.inl (hw _ (List.mem_of_getElem? (i := 49) rfl))) (by decide) (t := .int) (t' := .int) (by decide) (by decide)))) (((((((hM.v_limits.other W4 nd1_12).other W28 nd1_13).other W55 nd1_14).other W81 nd1_15).other W110 nd1_16).other W133 nd1_18).other W156 (Ne.symm nd1_01)) ((((((V4.other W28 nd1_23).other W55 nd1_24).other W81 nd1_25).other W110 nd1_26).other W133 nd1_28).other W156 (Ne.symm nd1_02)) (((((V28.other W55 nd1_34).other W81 nd1_35).other W110 nd1_36).other W133 nd1_38).other W156 (Ne.symm nd1_03)) ((((V55.other W81 nd1_45).other W110 nd1_46).other W133 nd1_48).other W156 (Ne.symm nd1_04)) (((V81.other W110 nd1_56).other W133 nd1_58).other W156 (Ne.symm nd1_05)) ((V110.other W133 nd1_68).other W156 (Ne.symm nd1_06)) (((((((hM.v_nexts.other W4 (Ne.symm nd1_27)).other W28 (Ne.symm nd1_37)).other W55 (Ne.symm nd1_47)).other W81 (Ne.symm nd1_57)).other W110 (Ne.symm nd1_67)).other W133 nd1_78).other W156 (Ne.symm nd1_07)) (V133.other W156 (Ne.symm nd1_08))
    exact o_ireturn X156 hx hret hlk (hb hby d_prog_12_method_4_code_269) (by decide) (by decide) e156 ⟨B, rfl, N174, K175, hsub, hLL⟩
  have k81 : ∀ (T_ : State) (h_ : Heap) (Lc : List Loc) (B : o_A) (zT : Nat) (tl : Nat), Stand p l e (({ frames := 0, cells := 0, slots := 0, locals := 0 } : Room)) s m #[(.ref a1), (.int (n32 pl)), (.int (n32 lo)), (.int (n32 wd)), (.int (0 : Int32))] below meth c T_ Lc 0 0 → T_.heap = h_ → Fr n0 Lc → n0 ≤ h_.size → Keep h0 h_ [a1, A.l, A.p, A.lo, A.m, A.w, A.s, A.x, A.t] → (∀ y ∈ a1 :: B.all, y ∈ a1 :: A.all ∨ h0.size ≤ y) → (o_M Z h_ n0 a1 B C (o_cap C.P.length) zT tl (o_ts1 C.ts (o_ff C.ts wd))) → (o_cap (o_ts C.ts wd).length = zT) → ((o_ts C.ts wd).length = tl) → ((o_ff C.ts wd) < zT) → (zT < 2147483648) → Goes p e below s (fun v h L => ∃ A' : o_A, v = some (.int (n32 C.P.length)) ∧ Fr n0 L ∧ Keep h0 h (a1 :: A.all) ∧ (∀ y ∈ a1 :: A'.all, y ∈ a1 :: A.all ∨ h0.size ≤ y) ∧ o_L Z h n0 a1 A' (o_add C pl lo wd)) (({ frames := 0, cells := 0, slots := 0, locals := 0 } : Room)).cells (({ frames := 0, cells := 0, slots := 0, locals := 0 } : Room)).slots (T_.setTop (mkF m 81 #[.val (.ref a1), .val (.int (n32 pl)), .val (.int (n32 lo)), .val (.int (n32 wd)), .val (.int (n32 (o_ff C.ts wd))), .unset] [])) := by
    intro T_ h_ Lc B zT tl X_ e_ N_ zz_ K_ hsub hM hzT htl hJz bz
    refine o_aloadN X_ hx (hb hby d_prog_12_method_4_code_81) (v := (.ref a1)) rfl rfl (n := 82) rfl ?_
    refine o_getfield X_ hx hZ hown (host := "") (Or.inl (hw _ (List.mem_of_getElem? (i := 48) rfl))) Via.refl e_ hM.f_pieces (hb hby d_prog_12_method_4_code_82) (n := 85) rfl ?_
    intro T176 X176 e176
    refine o_aloadN X176 hx (hb hby d_prog_12_method_4_code_85) (v := (.ref a1)) rfl rfl (n := 86) rfl ?_
    refine o_getfield X176 hx hZ hown (host := "") (Or.inl (hw _ (List.mem_of_getElem? (i := 23) rfl))) Via.refl e176 hM.f_places (hb hby d_prog_12_method_4_code_86) (n := 89) rfl ?_
    intro T177 X177 e177
    refine o_arraylength X177 hx hZ e177 hM.v_places (hb hby d_prog_12_method_4_code_89) (n := 90) rfl ?_
    refine o_icmpY X177 hx (hb hby d_prog_12_method_4_code_90) (XT.ii_ne_t hc90) (by decide) (n := 183) (by decide) ?_
    obtain ⟨gP1, gP2⟩ := o_ng hn hc90
    exact k183 _ _ _ B (o_cap C.P.length) zT tl _ (o_mono X177 (by decide) (by decide)) e177 N_ zz_ K_ hsub hM hzT htl hJz bz gP2 gP1 bcP
  have lp178 : ∀ (k i : Nat) (T_ : State) (Lc : List Loc), i + k = C.ts.length → (o_ffk C.ts wd i k = o_ff C.ts wd) → Stand p l e (({ frames := 0, cells := 0, slots := 0, locals := 0 } : Room)) s m #[(.ref a1), (.int (n32 pl)), (.int (n32 lo)), (.int (n32 wd)), (.int (0 : Int32))] below meth c T_ Lc 0 0 → T_.heap = h0 → Fr n0 Lc → Goes p e below s (fun v h L => ∃ A' : o_A, v = some (.int (n32 C.P.length)) ∧ Fr n0 L ∧ Keep h0 h (a1 :: A.all) ∧ (∀ y ∈ a1 :: A'.all, y ∈ a1 :: A.all ∨ h0.size ≤ y) ∧ o_L Z h n0 a1 A' (o_add C pl lo wd)) (({ frames := 0, cells := 0, slots := 0, locals := 0 } : Room)).cells (({ frames := 0, cells := 0, slots := 0, locals := 0 } : Room)).slots (T_.setTop (mkF m 0 #[.val (.ref a1), .val (.int (n32 pl)), .val (.int (n32 lo)), .val (.int (n32 wd)), .val (.int (n32 i)), .unset] [])) := by
    intro k
    induction k with
    | zero =>
      intro i T_ Lc hik hff X_ e_ N_
      refine o_iload X_ hx (hb hby d_prog_12_method_4_code_0) (v := (n32 i)) rfl (n := 2) rfl ?_
      have hi : i = C.ts.length := hik
      refine o_aloadN X_ hx (hb hby d_prog_12_method_4_code_2) (v := (.ref a1)) rfl rfl (n := 3) rfl ?_
      refine o_getfield X_ hx hZ hown (host := "") (Or.inl (hw _ (List.mem_of_getElem? (i := 38) rfl))) Via.refl e_ pL.f_length (hb hby d_prog_12_method_4_code_3) (n := 6) rfl ?_
      intro T179 X179 e179
      refine o_icmpY X179 hx (hb hby d_prog_12_method_4_code_6) (XT.ii_ge_t (o_ltF (Nat.le_of_eq hi.symm) (hi ▸ bT))) (by decide) (n := 29) (by decide) ?_
      obtain rfl : i = o_ff C.ts wd := hff
      have hJl : o_ff C.ts wd = C.ts.length := hi
      have hJn : ¬ o_ff C.ts wd < C.ts.length := hJl ▸ Nat.lt_irrefl _
      obtain ⟨nd180_01, nd180_02, nd180_03, nd180_04, nd180_05, nd180_06, nd180_07, nd180_08, nd180_12, nd180_13, nd180_14, nd180_15, nd180_16, nd180_17, nd180_18, nd180_23, nd180_24, nd180_25, nd180_26, nd180_27, nd180_28, nd180_34, nd180_35, nd180_36, nd180_37, nd180_38, nd180_45, nd180_46, nd180_47, nd180_48, nd180_56, nd180_57, nd180_58, nd180_67, nd180_68, nd180_78⟩ := o_nd36 pL.nd
      show Goes p e below s _ _ _ (T179.setTop (mkF m 29 #[.val (.ref a1), .val (.int (n32 pl)), .val (.int (n32 lo)), .val (.int (n32 wd)), .val (.int (n32 (o_ff C.ts wd))), .unset] []))
      refine o_iload X179 hx (hb hby d_prog_12_method_4_code_29) (v := (n32 (o_ff C.ts wd))) rfl (n := 31) rfl ?_
      refine o_aloadN X179 hx (hb hby d_prog_12_method_4_code_31) (v := (.ref a1)) rfl rfl (n := 32) rfl ?_
      refine o_getfield X179 hx hZ hown (host := "") (Or.inl (hw _ (List.mem_of_getElem? (i := 38) rfl))) Via.refl e179 pL.f_length (hb hby d_prog_12_method_4_code_32) (n := 35) rfl ?_
      intro T181 X181 e181
      refine o_icmpN X181 hx (hb hby d_prog_12_method_4_code_35) (XT.ii_ne_f (congrArg n32 hJl)) (n := 38) rfl ?_
      refine o_aloadN X181 hx (hb hby d_prog_12_method_4_code_38) (v := (.ref a1)) rfl rfl (n := 39) rfl ?_
      refine o_getfield X181 hx hZ hown (host := "") (Or.inl (hw _ (List.mem_of_getElem? (i := 38) rfl))) Via.refl e181 pL.f_length (hb hby d_prog_12_method_4_code_39) (n := 42) rfl ?_
      intro T182 X182 e182
      refine o_aloadN X182 hx (hb hby d_prog_12_method_4_code_42) (v := (.ref a1)) rfl rfl (n := 43) rfl ?_
      refine o_getfield X182 hx hZ hown (host := "") (Or.inl (hw _ (List.mem_of_getElem? (i := 35) rfl))) Via.refl e182 pL.f_tops (hb hby d_prog_12_method_4_code_43) (n := 46) rfl ?_
      intro T183 X183 e183
      refine o_arraylength X183 hx hZ e183 pL.v_tops (hb hby d_prog_12_method_4_code_46) (n := 47) rfl ?_
      refine o_icmpY X183 hx (hb hby d_prog_12_method_4_code_47) (XT.ii_ne_t hc47) (by decide) (n := 71) (by decide) ?_
      obtain ⟨gT1, gT2⟩ := o_ng hT hc47
      have hJz : o_ff C.ts wd < o_cap C.ts.length := hJl ▸ gT1
      have bz := bcT
      refine o_aloadN X183 hx (hb hby d_prog_12_method_4_code_71) (v := (.ref a1)) rfl rfl (n := 72) rfl ?_
      refine o_dup X183 hx (hb hby d_prog_12_method_4_code_72) rfl (n := 73) rfl ?_
      refine o_getfield X183 hx hZ hown (host := "") (Or.inl (hw _ (List.mem_of_getElem? (i := 38) rfl))) Via.refl e183 pL.f_length (hb hby d_prog_12_method_4_code_73) (n := 76) rfl ?_
      intro T184 X184 e184
      refine o_iconst X184 hx (hb hby d_prog_12_method_4_code_76) (v := (1 : Int32)) rfl (n := 77) rfl ?_
      refine o_iadd X184 hx (hb hby d_prog_12_method_4_code_77) (v := (n32 (C.ts.length + 1))) (o_nadd _ 1) (n := 78) rfl ?_
      refine o_putfield X184 hx hZ hown (host := "") (Or.inl (hw _ (List.mem_of_getElem? (i := 38) rfl))) Via.refl e184 pL.f_length pL.E (Or.inl (hw _ (List.mem_of_getElem? (i := 39) rfl))) (hw _ (List.mem_of_getElem? (i := 1) rfl)) (ty := .int) (by decide) rfl rfl (hb hby d_prog_12_method_4_code_78) (n := 81) rfl ?_
      intro T185 h185 X185 e185 W185 F185 E_185
      have zz185 : n0 ≤ h185.size := Nat.le_trans Z0 (Nat.le_of_eq W185.size.symm)
      have N203 := Fr.snoc X185 N_ (pL.ge _ (List.mem_of_getElem? (i := 0) rfl))
      have K204 : Keep h0 h185 [a1, A.l, A.p, A.lo, A.m, A.w, A.s, A.x, A.t] := (Keep.refl h0 [a1, A.l, A.p, A.lo, A.m, A.w, A.s, A.x, A.t]).wr W185 (Or.inl (List.mem_of_getElem? (i := 0) rfl))
      have hM205 : o_M Z h185 n0 a1 ⟨A.l, A.p, A.lo, A.m, A.w, A.s, A.x, A.t, A.kl, A.kp, A.ko, A.km, A.kw, A.ks, A.kx, A.kt⟩ C (o_cap C.P.length) (o_cap C.ts.length) (C.ts.length + 1) (o_ts1 C.ts (o_ff C.ts wd)) := ⟨(o_nd9 nd180_01 nd180_02 nd180_03 nd180_04 nd180_05 nd180_06 nd180_07 nd180_08 nd180_12 nd180_13 nd180_14 nd180_15 nd180_16 nd180_17 nd180_18 nd180_23 nd180_24 nd180_25 nd180_26 nd180_27 nd180_28 nd180_34 nd180_35 nd180_36 nd180_37 nd180_38 nd180_45 nd180_46 nd180_47 nd180_48 nd180_56 nd180_57 nd180_58 nd180_67 nd180_68 nd180_78), (o_all9 (P := fun y => n0 ≤ y) (pL.ge _ (List.mem_of_getElem? (i := 0) rfl)) (pL.ge _ (List.mem_of_getElem? (i := 1) rfl)) (pL.ge _ (List.mem_of_getElem? (i := 2) rfl)) (pL.ge _ (List.mem_of_getElem? (i := 3) rfl)) (pL.ge _ (List.mem_of_getElem? (i := 4) rfl)) (pL.ge _ (List.mem_of_getElem? (i := 5) rfl)) (pL.ge _ (List.mem_of_getElem? (i := 6) rfl)) (pL.ge _ (List.mem_of_getElem? (i := 7) rfl)) (pL.ge _ (List.mem_of_getElem? (i := 8) rfl))), E_185, (pL.f_limits.other W185 (Or.inr (slot_ne (Or.inr (hw _ (List.mem_of_getElem? (i := 22) rfl))) (Or.inl (hw _ (List.mem_of_getElem? (i := 39) rfl))) (by decide) (t := (.array .long)) (t' := .int) (by decide) (by decide)))), (pL.f_places.other W185 (Or.inr (slot_ne (Or.inl (hw _ (List.mem_of_getElem? (i := 24) rfl))) (Or.inl (hw _ (List.mem_of_getElem? (i := 39) rfl))) (by decide) (t := (.array .int)) (t' := .int) (by decide) (by decide)))), (pL.f_lows.other W185 (Or.inr (slot_ne (Or.inl (hw _ (List.mem_of_getElem? (i := 26) rfl))) (Or.inl (hw _ (List.mem_of_getElem? (i := 39) rfl))) (by decide) (t := (.array .int)) (t' := .int) (by decide) (by decide)))), (pL.f_masks.other W185 (Or.inr (slot_ne (Or.inl (hw _ (List.mem_of_getElem? (i := 28) rfl))) (Or.inl (hw _ (List.mem_of_getElem? (i := 39) rfl))) (by decide) (t := (.array .long)) (t' := .int) (by decide) (by decide)))), (pL.f_words.other W185 (Or.inr (slot_ne (Or.inl (hw _ (List.mem_of_getElem? (i := 30) rfl))) (Or.inl (hw _ (List.mem_of_getElem? (i := 39) rfl))) (by decide) (t := (.array .int)) (t' := .int) (by decide) (by decide)))), (pL.f_shifts.other W185 (Or.inr (slot_ne (Or.inl (hw _ (List.mem_of_getElem? (i := 32) rfl))) (Or.inl (hw _ (List.mem_of_getElem? (i := 39) rfl))) (by decide) (t := (.array .int)) (t' := .int) (by decide) (by decide)))), (pL.f_nexts.other W185 (Or.inr (slot_ne (Or.inl (hw _ (List.mem_of_getElem? (i := 34) rfl))) (Or.inl (hw _ (List.mem_of_getElem? (i := 39) rfl))) (by decide) (t := (.array .int)) (t' := .int) (by decide) (by decide)))), (pL.f_tops.other W185 (Or.inr (slot_ne (Or.inl (hw _ (List.mem_of_getElem? (i := 36) rfl))) (Or.inl (hw _ (List.mem_of_getElem? (i := 39) rfl))) (by decide) (t := (.array .int)) (t' := .int) (by decide) (by decide)))), (pL.f_pieces.other W185 (Or.inr (slot_ne (Or.inl (hw _ (List.mem_of_getElem? (i := 49) rfl))) (Or.inl (hw _ (List.mem_of_getElem? (i := 39) rfl))) (by decide) (t := .int) (t' := .int) (by decide) (by decide)))), F185, (pL.v_limits.other W185 (Ne.symm nd180_01)), (pL.v_places.other W185 (Ne.symm nd180_02)), (pL.v_lows.other W185 (Ne.symm nd180_03)), (pL.v_masks.other W185 (Ne.symm nd180_04)), (pL.v_words.other W185 (Ne.symm nd180_05)), (pL.v_shifts.other W185 (Ne.symm nd180_06)), (pL.v_nexts.other W185 (Ne.symm nd180_07)), ((pL.v_tops.other W185 (Ne.symm nd180_08)).pad (o_padT hJn))⟩
      exact k81 _ _ _ ⟨A.l, A.p, A.lo, A.m, A.w, A.s, A.x, A.t, A.kl, A.kp, A.ko, A.km, A.kw, A.ks, A.kx, A.kt⟩ (o_cap C.ts.length) (C.ts.length + 1) (o_mono X185 (by decide) (by decide)) e185 N203 zz185 K204 (o_all9 (P := fun y => y ∈ a1 :: A.all ∨ h0.size ≤ y) (Or.inl (List.mem_of_getElem? (i := 0) rfl)) (Or.inl (List.mem_of_getElem? (i := 1) rfl)) (Or.inl (List.mem_of_getElem? (i := 2) rfl)) (Or.inl (List.mem_of_getElem? (i := 3) rfl)) (Or.inl (List.mem_of_getElem? (i := 4) rfl)) (Or.inl (List.mem_of_getElem? (i := 5) rfl)) (Or.inl (List.mem_of_getElem? (i := 6) rfl)) (Or.inl (List.mem_of_getElem? (i := 7) rfl)) (Or.inl (List.mem_of_getElem? (i := 8) rfl))) hM205 (by rw [o_tslen, if_neg hJn]; exact gT2) (by rw [o_tslen, if_neg hJn]) hJz bz
    | succ k ih =>
      intro i T_ Lc hik hff X_ e_ N_
      refine o_iload X_ hx (hb hby d_prog_12_method_4_code_0) (v := (n32 i)) rfl (n := 2) rfl ?_
      have hi : i < C.ts.length := Nat.lt_of_lt_of_eq (Nat.lt_add_of_pos_right (Nat.succ_pos k)) hik
      refine o_aloadN X_ hx (hb hby d_prog_12_method_4_code_2) (v := (.ref a1)) rfl rfl (n := 3) rfl ?_
      refine o_getfield X_ hx hZ hown (host := "") (Or.inl (hw _ (List.mem_of_getElem? (i := 38) rfl))) Via.refl e_ pL.f_length (hb hby d_prog_12_method_4_code_3) (n := 6) rfl ?_
      intro T206 X206 e206
      refine o_icmpN X206 hx (hb hby d_prog_12_method_4_code_6) (XT.ii_ge_f (o_ltT hi bT)) (n := 9) rfl ?_
      refine o_aloadN X206 hx (hb hby d_prog_12_method_4_code_9) (v := (.ref a1)) rfl rfl (n := 10) rfl ?_
      refine o_getfield X206 hx hZ hown (host := "") (Or.inl (hw _ (List.mem_of_getElem? (i := 35) rfl))) Via.refl e206 pL.f_tops (hb hby d_prog_12_method_4_code_10) (n := 13) rfl ?_
      intro T207 X207 e207
      refine o_iload X207 hx (hb hby d_prog_12_method_4_code_13) (v := (n32 i)) rfl (n := 15) rfl ?_
      refine o_iaload X207 hx hZ e207 pL.v_tops (i) (o_nt (Nat.lt_trans hi bT)) (o_ix (Nat.lt_of_lt_of_le hi lT) bcT) (v := (.int (n32 (C.ts.getD i 0)))) (o_mgd _ _) (hb hby d_prog_12_method_4_code_15) (n := 16) rfl ?_
      refine o_iloadN X207 hx (hb hby d_prog_12_method_4_code_16) (v := (n32 wd)) rfl (n := 17) rfl ?_
      refine o_iadd X207 hx (hb hby d_prog_12_method_4_code_17) (v := (n32 (C.ts.getD i 0 + wd))) (o_nadd _ _) (n := 18) rfl ?_
      refine o_bipush X207 hx (hb hby d_prog_12_method_4_code_18) (v := (64 : Int32)) rfl (n := 20) rfl ?_
      by_cases hc20 : (64 : Int32) < (n32 (C.ts.getD i 0 + wd))
      · refine o_icmpN X207 hx (hb hby d_prog_12_method_4_code_20) (XT.ii_le_f hc20) (n := 23) rfl ?_
        refine o_iinc X207 hx (hb hby d_prog_12_method_4_code_23) (w := (n32 (i + 1))) rfl (o_nadd i 1) (Ls' := #[.val (.ref a1), .val (.int (n32 pl)), .val (.int (n32 lo)), .val (.int (n32 wd)), .val (.int (n32 (i + 1))), .unset]) rfl (n := 26) rfl ?_
        refine o_goto X207 hx (hb hby d_prog_12_method_4_code_26) (by decide) (n := 0) (by decide) ?_
        have hff' : o_ffk C.ts wd (i + 1) k = o_ff C.ts wd := by rw [← hff, o_ffk, if_neg ((o_fit I hwd).mp hc20)]
        exact ih (i + 1) _ _ ((Nat.add_right_comm _ 1 _).trans hik) hff' X207 e207 N_
      · refine o_icmpY X207 hx (hb hby d_prog_12_method_4_code_20) (XT.ii_le_t hc20) (by decide) (n := 29) (by decide) ?_
        obtain rfl : i = o_ff C.ts wd := by rw [← hff, o_ffk, if_pos (Decidable.not_not.mp fun z => hc20 ((o_fit I hwd).mpr z))]
        have hJl : o_ff C.ts wd < C.ts.length := hi
        have hJz := Nat.lt_of_lt_of_le hJl lT
        have bz := bcT
        show Goes p e below s _ _ _ (T207.setTop (mkF m 29 #[.val (.ref a1), .val (.int (n32 pl)), .val (.int (n32 lo)), .val (.int (n32 wd)), .val (.int (n32 (o_ff C.ts wd))), .unset] []))
        refine o_iload X207 hx (hb hby d_prog_12_method_4_code_29) (v := (n32 (o_ff C.ts wd))) rfl (n := 31) rfl ?_
        refine o_aloadN X207 hx (hb hby d_prog_12_method_4_code_31) (v := (.ref a1)) rfl rfl (n := 32) rfl ?_
        refine o_getfield X207 hx hZ hown (host := "") (Or.inl (hw _ (List.mem_of_getElem? (i := 38) rfl))) Via.refl e207 pL.f_length (hb hby d_prog_12_method_4_code_32) (n := 35) rfl ?_
        intro T208 X208 e208
        refine o_icmpY X208 hx (hb hby d_prog_12_method_4_code_35) (XT.ii_ne_t (o_eqF hJl bT)) (by decide) (n := 81) (by decide) ?_
        exact k81 _ _ _ A (o_cap C.ts.length) C.ts.length (o_mono X208 (by decide) (by decide)) e208 N_ Z0 (Keep.refl h0 [a1, A.l, A.p, A.lo, A.m, A.w, A.s, A.x, A.t]) (fun y hy => Or.inl hy) (pL.toM hJl) (by rw [o_tslen, if_pos hJl]) (by rw [o_tslen, if_pos hJl]) hJz bz
  exact lp178 _ 0 _ _ (Nat.zero_add _) rfl X0 e0 N0
theorem d_prog_12_method_2_code_0 : decode prog_12_method_2_code 0 = .ok (.aload_n 0, 1) := by decide +kernel
theorem d_prog_12_method_2_code_1 : decode prog_12_method_2_code 1 = .ok (.invokespecial 11, 3) := by decide +kernel
theorem d_prog_12_method_2_code_4 : decode prog_12_method_2_code 4 = .ok (.aload_n 1, 1) := by decide +kernel
theorem d_prog_12_method_2_code_5 : decode prog_12_method_2_code 5 = .ok (.arraylength, 1) := by decide +kernel
theorem d_prog_12_method_2_code_6 : decode prog_12_method_2_code 6 = .ok (.istore_n 2, 1) := by decide +kernel
theorem d_prog_12_method_2_code_7 : decode prog_12_method_2_code 7 = .ok (.aload_n 0, 1) := by decide +kernel
theorem d_prog_12_method_2_code_8 : decode prog_12_method_2_code 8 = .ok (.iload_n 2, 1) := by decide +kernel
theorem d_prog_12_method_2_code_9 : decode prog_12_method_2_code 9 = .ok (.newarray .long, 2) := by decide +kernel
theorem d_prog_12_method_2_code_11 : decode prog_12_method_2_code 11 = .ok (.putfield 16, 3) := by decide +kernel
theorem d_prog_12_method_2_code_14 : decode prog_12_method_2_code 14 = .ok (.aload_n 0, 1) := by decide +kernel
theorem d_prog_12_method_2_code_15 : decode prog_12_method_2_code 15 = .ok (.iload_n 2, 1) := by decide +kernel
theorem d_prog_12_method_2_code_16 : decode prog_12_method_2_code 16 = .ok (.newarray .int, 2) := by decide +kernel
theorem d_prog_12_method_2_code_18 : decode prog_12_method_2_code 18 = .ok (.putfield 20, 3) := by decide +kernel
theorem d_prog_12_method_2_code_21 : decode prog_12_method_2_code 21 = .ok (.aload_n 0, 1) := by decide +kernel
theorem d_prog_12_method_2_code_22 : decode prog_12_method_2_code 22 = .ok (.iload_n 2, 1) := by decide +kernel
theorem d_prog_12_method_2_code_23 : decode prog_12_method_2_code 23 = .ok (.newarray .int, 2) := by decide +kernel
theorem d_prog_12_method_2_code_25 : decode prog_12_method_2_code 25 = .ok (.putfield 24, 3) := by decide +kernel
theorem d_prog_12_method_2_code_28 : decode prog_12_method_2_code 28 = .ok (.aload_n 0, 1) := by decide +kernel
theorem d_prog_12_method_2_code_29 : decode prog_12_method_2_code 29 = .ok (.iload_n 2, 1) := by decide +kernel
theorem d_prog_12_method_2_code_30 : decode prog_12_method_2_code 30 = .ok (.newarray .long, 2) := by decide +kernel
theorem d_prog_12_method_2_code_32 : decode prog_12_method_2_code 32 = .ok (.putfield 27, 3) := by decide +kernel
theorem d_prog_12_method_2_code_35 : decode prog_12_method_2_code 35 = .ok (.aload_n 0, 1) := by decide +kernel
theorem d_prog_12_method_2_code_36 : decode prog_12_method_2_code 36 = .ok (.iload_n 2, 1) := by decide +kernel
theorem d_prog_12_method_2_code_37 : decode prog_12_method_2_code 37 = .ok (.newarray .int, 2) := by decide +kernel
theorem d_prog_12_method_2_code_39 : decode prog_12_method_2_code 39 = .ok (.putfield 30, 3) := by decide +kernel
theorem d_prog_12_method_2_code_42 : decode prog_12_method_2_code 42 = .ok (.aload_n 0, 1) := by decide +kernel
theorem d_prog_12_method_2_code_43 : decode prog_12_method_2_code 43 = .ok (.iload_n 2, 1) := by decide +kernel
theorem d_prog_12_method_2_code_44 : decode prog_12_method_2_code 44 = .ok (.newarray .int, 2) := by decide +kernel
theorem d_prog_12_method_2_code_46 : decode prog_12_method_2_code 46 = .ok (.putfield 33, 3) := by decide +kernel
theorem d_prog_12_method_2_code_49 : decode prog_12_method_2_code 49 = .ok (.aload_n 0, 1) := by decide +kernel
theorem d_prog_12_method_2_code_50 : decode prog_12_method_2_code 50 = .ok (.iload_n 2, 1) := by decide +kernel
theorem d_prog_12_method_2_code_51 : decode prog_12_method_2_code 51 = .ok (.newarray .int, 2) := by decide +kernel
theorem d_prog_12_method_2_code_53 : decode prog_12_method_2_code 53 = .ok (.putfield 36, 3) := by decide +kernel
theorem d_prog_12_method_2_code_56 : decode prog_12_method_2_code 56 = .ok (.aload_n 0, 1) := by decide +kernel
theorem d_prog_12_method_2_code_57 : decode prog_12_method_2_code 57 = .ok (.iload_n 2, 1) := by decide +kernel
theorem d_prog_12_method_2_code_58 : decode prog_12_method_2_code 58 = .ok (.newarray .int, 2) := by decide +kernel
theorem d_prog_12_method_2_code_60 : decode prog_12_method_2_code 60 = .ok (.putfield 39, 3) := by decide +kernel
theorem d_prog_12_method_2_code_63 : decode prog_12_method_2_code 63 = .ok (.iconst 0, 1) := by decide +kernel
theorem d_prog_12_method_2_code_64 : decode prog_12_method_2_code 64 = .ok (.istore_n 3, 1) := by decide +kernel
theorem d_prog_12_method_2_code_65 : decode prog_12_method_2_code 65 = .ok (.iload_n 3, 1) := by decide +kernel
theorem d_prog_12_method_2_code_66 : decode prog_12_method_2_code 66 = .ok (.iload_n 2, 1) := by decide +kernel
theorem d_prog_12_method_2_code_67 : decode prog_12_method_2_code 67 = .ok (.if_icmp .ge 52, 3) := by decide +kernel
theorem d_prog_12_method_2_code_70 : decode prog_12_method_2_code 70 = .ok (.aload_n 0, 1) := by decide +kernel
theorem d_prog_12_method_2_code_71 : decode prog_12_method_2_code 71 = .ok (.getfield 16, 3) := by decide +kernel
theorem d_prog_12_method_2_code_74 : decode prog_12_method_2_code 74 = .ok (.iload_n 3, 1) := by decide +kernel
theorem d_prog_12_method_2_code_75 : decode prog_12_method_2_code 75 = .ok (.ldc2_w 42, 3) := by decide +kernel
theorem d_prog_12_method_2_code_78 : decode prog_12_method_2_code 78 = .ok (.bipush 64, 2) := by decide +kernel
theorem d_prog_12_method_2_code_80 : decode prog_12_method_2_code 80 = .ok (.aload_n 1, 1) := by decide +kernel
theorem d_prog_12_method_2_code_81 : decode prog_12_method_2_code 81 = .ok (.iload_n 3, 1) := by decide +kernel
theorem d_prog_12_method_2_code_82 : decode prog_12_method_2_code 82 = .ok (.iaload, 1) := by decide +kernel
theorem d_prog_12_method_2_code_83 : decode prog_12_method_2_code 83 = .ok (.isub, 1) := by decide +kernel
theorem d_prog_12_method_2_code_84 : decode prog_12_method_2_code 84 = .ok (.lushr, 1) := by decide +kernel
theorem d_prog_12_method_2_code_85 : decode prog_12_method_2_code 85 = .ok (.lastore, 1) := by decide +kernel
theorem d_prog_12_method_2_code_86 : decode prog_12_method_2_code 86 = .ok (.aload_n 0, 1) := by decide +kernel
theorem d_prog_12_method_2_code_87 : decode prog_12_method_2_code 87 = .ok (.iload_n 3, 1) := by decide +kernel
theorem d_prog_12_method_2_code_88 : decode prog_12_method_2_code 88 = .ok (.iconst 0, 1) := by decide +kernel
theorem d_prog_12_method_2_code_89 : decode prog_12_method_2_code 89 = .ok (.aload_n 1, 1) := by decide +kernel
theorem d_prog_12_method_2_code_90 : decode prog_12_method_2_code 90 = .ok (.iload_n 3, 1) := by decide +kernel
theorem d_prog_12_method_2_code_91 : decode prog_12_method_2_code 91 = .ok (.iaload, 1) := by decide +kernel
theorem d_prog_12_method_2_code_92 : decode prog_12_method_2_code 92 = .ok (.iconst 0, 1) := by decide +kernel
theorem d_prog_12_method_2_code_93 : decode prog_12_method_2_code 93 = .ok (.aload_n 0, 1) := by decide +kernel
theorem d_prog_12_method_2_code_94 : decode prog_12_method_2_code 94 = .ok (.getfield 44, 3) := by decide +kernel
theorem d_prog_12_method_2_code_97 : decode prog_12_method_2_code 97 = .ok (.iconst 1, 1) := by decide +kernel
theorem d_prog_12_method_2_code_98 : decode prog_12_method_2_code 98 = .ok (.isub, 1) := by decide +kernel
theorem d_prog_12_method_2_code_99 : decode prog_12_method_2_code 99 = .ok (.invokestatic 48, 3) := by decide +kernel
theorem d_prog_12_method_2_code_102 : decode prog_12_method_2_code 102 = .ok (.invokevirtual 54, 3) := by decide +kernel
theorem o_pd6 : parseMethodDescriptor "(IIII)I" = some ⟨[.int, .int, .int, .int], some .int⟩ := by decide +kernel
theorem d_prog_12_method_2_code_105 : decode prog_12_method_2_code 105 = .ok (.pop, 1) := by decide +kernel
theorem d_prog_12_method_2_code_106 : decode prog_12_method_2_code 106 = .ok (.aload_n 0, 1) := by decide +kernel
theorem d_prog_12_method_2_code_107 : decode prog_12_method_2_code 107 = .ok (.getfield 36, 3) := by decide +kernel
theorem d_prog_12_method_2_code_110 : decode prog_12_method_2_code 110 = .ok (.iload_n 3, 1) := by decide +kernel
theorem d_prog_12_method_2_code_111 : decode prog_12_method_2_code 111 = .ok (.iconst (-1), 1) := by decide +kernel
theorem d_prog_12_method_2_code_112 : decode prog_12_method_2_code 112 = .ok (.iastore, 1) := by decide +kernel
theorem d_prog_12_method_2_code_113 : decode prog_12_method_2_code 113 = .ok (.iinc 3 1, 3) := by decide +kernel
theorem d_prog_12_method_2_code_116 : decode prog_12_method_2_code 116 = .ok (.goto (-51), 3) := by decide +kernel
theorem d_prog_12_method_2_code_119 : decode prog_12_method_2_code 119 = .ok (.return_, 1) := by decide +kernel
theorem o_ef14 (m : MethodId) (a1 : Addr) (q : Addr) : entryFrame m #[(.ref a1), (.ref q)] 4 = mkF m 0 #[.val (.ref a1), .val (.ref q), .unset, .unset] [] := by first | (simp [entryFrame, mkF, argsToLocals, Value.category]; done) | rfl
set_option maxRecDepth 65536 in
set_option maxHeartbeats 40000000 in
theorem c_ini2 (l : Launch) (Z : State) (a0 : Array Value) (hw : ∀ d ∈ tables_1, d.before a0 Z = true) (a1 q : Addr) (k1 : ClassId) (h0 : Heap) (n0 : Nat) (Z0 : n0 ≤ h0.size) (pg : n0 ≤ a1) (pE : Exa Z h0 a1 "com/example/marke/marke/analysis/MarkingLayout") (pF_limits : Fld Z h0 a1 "com/example/marke/marke/analysis/MarkingLayout" "limits" "[J" .null) (pF_places : Fld Z h0 a1 "com/example/marke/marke/analysis/MarkingLayout" "places" "[I" .null) (pF_lows : Fld Z h0 a1 "com/example/marke/marke/analysis/MarkingLayout" "lows" "[I" .null) (pF_masks : Fld Z h0 a1 "com/example/marke/marke/analysis/MarkingLayout" "masks" "[J" .null) (pF_words : Fld Z h0 a1 "com/example/marke/marke/analysis/MarkingLayout" "words" "[I" .null) (pF_shifts : Fld Z h0 a1 "com/example/marke/marke/analysis/MarkingLayout" "shifts" "[I" .null) (pF_nexts : Fld Z h0 a1 "com/example/marke/marke/analysis/MarkingLayout" "nexts" "[I" .null) (pF_tops : Fld Z h0 a1 "com/example/marke/marke/analysis/MarkingLayout" "tops" "[I" .null) (pF_pieces : Fld Z h0 a1 "com/example/marke/marke/analysis/MarkingLayout" "pieces" "I" (.int (0 : Int32))) (pF_length : Fld Z h0 a1 "com/example/marke/marke/analysis/MarkingLayout" "length" "I" (.int (0 : Int32))) (pV : Arv Z h0 q k1 .int 2 [.int 1, .int 1] (.int 0)) (pne : a1 ≠ q) :
    Does l Z (⟨"com/example/marke/marke/analysis/MarkingLayout", "<init>", "([I)V"⟩ : MethodName) prog_12_method_2_code 4 none [] ({ frames := 1, cells := 8, slots := 16, locals := 17 } : Room) #[(.ref a1), (.ref q)] h0 (fun v h L => ∃ A' : o_A, v = none ∧ Fr n0 L ∧ Keep h0 h [a1] ∧ (∀ y ∈ a1 :: A'.all, y ∈ [a1] ∨ h0.size ≤ y) ∧ o_L Z h n0 a1 A' o_C1) := by
  refine Does.of (plainFor_of_name o_pn3) ?_
  intro p e s m below meth c T0 hx hby hml hown hnm hret hlk hZ X0 e0
  have hown : s.vm.findClass "com/example/marke/marke/analysis/MarkingLayout" = some m.cls := hown
  have hml : c.maxLocals = 4 := hml
  have hret : meth.sig.returnType = none := hret
  refine o_entry (o_ef14 m a1 q) ?_
  have N0 := Fr.nil n0
  refine o_aloadN X0 hx (hb hby d_prog_12_method_2_code_0) (v := (.ref a1)) rfl rfl (n := 1) rfl ?_
  refine o_initO X0 hx hZ hown (hw _ (List.mem_of_getElem? (i := 17) rfl)) (hw _ (List.mem_of_getElem? (i := 18) rfl)) (hw _ (List.mem_of_getElem? (i := 19) rfl)) e0 (by rw [hml]; rfl) (hb hby d_prog_12_method_2_code_1) (by decide) 0 (Nat.le_of_eq rfl) (by decide) (n := 4) rfl ?_
  intro T1 X1 e1
  refine o_aloadN X1 hx (hb hby d_prog_12_method_2_code_4) (v := (.ref q)) rfl rfl (n := 5) rfl ?_
  refine o_arraylength X1 hx hZ e1 pV (hb hby d_prog_12_method_2_code_5) (n := 6) rfl ?_
  refine o_istoreN X1 hx (hb hby d_prog_12_method_2_code_6) (Ls' := #[.val (.ref a1), .val (.ref q), .val (.int (2 : Int32)), .unset]) rfl (n := 7) rfl ?_
  refine o_aloadN X1 hx (hb hby d_prog_12_method_2_code_7) (v := (.ref a1)) rfl rfl (n := 8) rfl ?_
  refine o_iloadN X1 hx (hb hby d_prog_12_method_2_code_8) (v := (2 : Int32)) rfl (n := 9) rfl ?_
  refine o_newarray X1 hx hZ (aty := .long) (hw _ (List.mem_of_getElem? (i := 20) rfl)) e1 (hb hby d_prog_12_method_2_code_9) (by decide) 2 (by decide) (by decide) (by decide) (by decide) (n := 11) rfl ?_
  intro T2 h2 b2 k2 X2 e2 g2 E2 V2
  have ne3 : a1 ≠ b2 := Nat.ne_of_lt (Nat.lt_of_lt_of_eq pE.lt g2.symm)
  have ne4 : q ≠ b2 := Nat.ne_of_lt (Nat.lt_of_lt_of_eq pV.lt g2.symm)
  have gg2 : n0 ≤ b2 := Nat.le_trans Z0 (Nat.le_of_eq g2.symm)
  have zz2 : n0 ≤ h2.size := Nat.le_trans Z0 E2.1
  have sz2 : h0.size ≤ b2 := Nat.le_trans (Keep.refl h0 [a1]).1 (Nat.le_of_eq g2.symm)
  have K17 : Keep h0 h2 [a1] := (Keep.refl h0 [a1]).ext E2
  have f18 : Arv Z h2 b2 k2 .long (2 : Int32) [(.long (0 : Int64)), (.long (0 : Int64))] (.long (0 : Int64)) := V2.pad (pad_rep [] (.long (0 : Int64)) 2)
  refine o_putfield X2 hx hZ hown (host := "") (Or.inl (hw _ (List.mem_of_getElem? (i := 21) rfl))) Via.refl e2 (pF_limits.ext E2) (pE.ext E2) (Or.inr ⟨(hw _ (List.mem_of_getElem? (i := 22) rfl)), rfl, hnm⟩) (hw _ (List.mem_of_getElem? (i := 1) rfl)) (ty := (.array .long)) (by decide) rfl rfl (hb hby d_prog_12_method_2_code_11) (n := 14) rfl ?_
  intro T19 h19 X19 e19 W19 F19 E_19
  have zz19 : n0 ≤ h19.size := Nat.le_trans zz2 (Nat.le_of_eq W19.size.symm)
  have N31 := Fr.snoc X19 N0 pg
  have K32 : Keep h0 h19 [a1] := K17.wr W19 (Or.inl (List.mem_of_getElem? (i := 0) rfl))
  refine o_aloadN X19 hx (hb hby d_prog_12_method_2_code_14) (v := (.ref a1)) rfl rfl (n := 15) rfl ?_
  refine o_iloadN X19 hx (hb hby d_prog_12_method_2_code_15) (v := (2 : Int32)) rfl (n := 16) rfl ?_
  refine o_newarray X19 hx hZ (aty := .int) (hw _ (List.mem_of_getElem? (i := 9) rfl)) e19 (hb hby d_prog_12_method_2_code_16) (by decide) 2 (by decide) (by decide) (by decide) (by decide) (n := 18) rfl ?_
  intro T33 h33 b33 k33 X33 e33 g33 E33 V33
  have ne34 : a1 ≠ b33 := Nat.ne_of_lt (Nat.lt_of_lt_of_eq E_19.lt g33.symm)
  have ne35 : q ≠ b33 := Nat.ne_of_lt (Nat.lt_of_lt_of_eq ((pV.ext E2).other W19 (Ne.symm pne)).lt g33.symm)
  have ne36 : b2 ≠ b33 := Nat.ne_of_lt (Nat.lt_of_lt_of_eq (f18.other W19 (Ne.symm ne3)).lt g33.symm)
  have gg33 : n0 ≤ b33 := Nat.le_trans zz19 (Nat.le_of_eq g33.symm)
  have zz33 : n0 ≤ h33.size := Nat.le_trans zz19 E33.1
  have sz33 : h0.size ≤ b33 := Nat.le_trans K32.1 (Nat.le_of_eq g33.symm)
  have K50 : Keep h0 h33 [a1] := K32.ext E33
  have f51 : Arv Z h33 b33 k33 .int (2 : Int32) [(.int (0 : Int32)), (.int (0 : Int32))] (.int (0 : Int32)) := V33.pad (pad_rep [] (.int (0 : Int32)) 2)
  have f52 := (((pF_places.ext E2).other W19 (Or.inr (slot_ne (Or.inl (hw _ (List.mem_of_getElem? (i := 24) rfl))) (Or.inr (hw _ (List.mem_of_getElem? (i := 22) rfl))) (by decide) (t := (.array .int)) (t' := (.array .long)) (by decide) (by decide)))).ext E33)
  refine o_putfield X33 hx hZ hown (host := "") (Or.inl (hw _ (List.mem_of_getElem? (i := 23) rfl))) Via.refl e33 f52 (E_19.ext E33) (Or.inl (hw _ (List.mem_of_getElem? (i := 24) rfl))) (hw _ (List.mem_of_getElem? (i := 1) rfl)) (ty := (.array .int)) (by decide) rfl rfl (hb hby d_prog_12_method_2_code_18) (n := 21) rfl ?_
  intro T53 h53 X53 e53 W53 F53 E_53
  have zz53 : n0 ≤ h53.size := Nat.le_trans zz33 (Nat.le_of_eq W53.size.symm)
  have N66 := Fr.snoc X53 N31 pg
  have K67 : Keep h0 h53 [a1] := K50.wr W53 (Or.inl (List.mem_of_getElem? (i := 0) rfl))
  refine o_aloadN X53 hx (hb hby d_prog_12_method_2_code_21) (v := (.ref a1)) rfl rfl (n := 22) rfl ?_
  refine o_iloadN X53 hx (hb hby d_prog_12_method_2_code_22) (v := (2 : Int32)) rfl (n := 23) rfl ?_
  refine o_newarray X53 hx hZ (aty := .int) (hw _ (List.mem_of_getElem? (i := 9) rfl)) e53 (hb hby d_prog_12_method_2_code_23) (by decide) 2 (by decide) (by decide) (by decide) (by decide) (n := 25) rfl ?_
  intro T68 h68 b68 k68 X68 e68 g68 E68 V68
  have ne69 : a1 ≠ b68 := Nat.ne_of_lt (Nat.lt_of_lt_of_eq E_53.lt g68.symm)
  have ne70 : q ≠ b68 := Nat.ne_of_lt (Nat.lt_of_lt_of_eq ((((pV.ext E2).other W19 (Ne.symm pne)).ext E33).other W53 (Ne.symm pne)).lt g68.symm)
  have ne71 : b2 ≠ b68 := Nat.ne_of_lt (Nat.lt_of_lt_of_eq (((f18.other W19 (Ne.symm ne3)).ext E33).other W53 (Ne.symm ne3)).lt g68.symm)
  have ne72 : b33 ≠ b68 := Nat.ne_of_lt (Nat.lt_of_lt_of_eq (f51.other W53 (Ne.symm ne34)).lt g68.symm)
  have gg68 : n0 ≤ b68 := Nat.le_trans zz53 (Nat.le_of_eq g68.symm)
  have zz68 : n0 ≤ h68.size := Nat.le_trans zz53 E68.1
  have sz68 : h0.size ≤ b68 := Nat.le_trans K67.1 (Nat.le_of_eq g68.symm)
  have K87 : Keep h0 h68 [a1] := K67.ext E68
  have f88 : Arv Z h68 b68 k68 .int (2 : Int32) [(.int (0 : Int32)), (.int (0 : Int32))] (.int (0 : Int32)) := V68.pad (pad_rep [] (.int (0 : Int32)) 2)
  have f89 := (((((pF_lows.ext E2).other W19 (Or.inr (slot_ne (Or.inl (hw _ (List.mem_of_getElem? (i := 26) rfl))) (Or.inr (hw _ (List.mem_of_getElem? (i := 22) rfl))) (by decide) (t := (.array .int)) (t' := (.array .long)) (by decide) (by decide)))).ext E33).other W53 (Or.inr (slot_ne (Or.inl (hw _ (List.mem_of_getElem? (i := 26) rfl))) (Or.inl (hw _ (List.mem_of_getElem? (i := 24) rfl))) (by decide) (t := (.array .int)) (t' := (.array .int)) (by decide) (by decide)))).ext E68)
  refine o_putfield X68 hx hZ hown (host := "") (Or.inl (hw _ (List.mem_of_getElem? (i := 25) rfl))) Via.refl e68 f89 (E_53.ext E68) (Or.inl (hw _ (List.mem_of_getElem? (i := 26) rfl))) (hw _ (List.mem_of_getElem? (i := 1) rfl)) (ty := (.array .int)) (by decide) rfl rfl (hb hby d_prog_12_method_2_code_25) (n := 28) rfl ?_
  intro T90 h90 X90 e90 W90 F90 E_90
  have zz90 : n0 ≤ h90.size := Nat.le_trans zz68 (Nat.le_of_eq W90.size.symm)
  have N104 := Fr.snoc X90 N66 pg
  have K105 : Keep h0 h90 [a1] := K87.wr W90 (Or.inl (List.mem_of_getElem? (i := 0) rfl))
  refine o_aloadN X90 hx (hb hby d_prog_12_method_2_code_28) (v := (.ref a1)) rfl rfl (n := 29) rfl ?_
  refine o_iloadN X90 hx (hb hby d_prog_12_method_2_code_29) (v := (2 : Int32)) rfl (n := 30) rfl ?_
  refine o_newarray X90 hx hZ (aty := .long) (hw _ (List.mem_of_getElem? (i := 20) rfl)) e90 (hb hby d_prog_12_method_2_code_30) (by decide) 2 (by decide) (by decide) (by decide) (by decide) (n := 32) rfl ?_
  intro T106 h106 b106 k106 X106 e106 g106 E106 V106
  have ne107 : a1 ≠ b106 := Nat.ne_of_lt (Nat.lt_of_lt_of_eq E_90.lt g106.symm)
  have ne108 : q ≠ b106 := Nat.ne_of_lt (Nat.lt_of_lt_of_eq ((((((pV.ext E2).other W19 (Ne.symm pne)).ext E33).other W53 (Ne.symm pne)).ext E68).other W90 (Ne.symm pne)).lt g106.symm)
  have ne109 : b2 ≠ b106 := Nat.ne_of_lt (Nat.lt_of_lt_of_eq (((((f18.other W19 (Ne.symm ne3)).ext E33).other W53 (Ne.symm ne3)).ext E68).other W90 (Ne.symm ne3)).lt g106.symm)
  have ne110 : b33 ≠ b106 := Nat.ne_of_lt (Nat.lt_of_lt_of_eq (((f51.other W53 (Ne.symm ne34)).ext E68).other W90 (Ne.symm ne34)).lt g106.symm)
  have ne111 : b68 ≠ b106 := Nat.ne_of_lt (Nat.lt_of_lt_of_eq (f88.other W90 (Ne.symm ne69)).lt g106.symm)
  have gg106 : n0 ≤ b106 := Nat.le_trans zz90 (Nat.le_of_eq g106.symm)
  have zz106 : n0 ≤ h106.size := Nat.le_trans zz90 E106.1
  have sz106 : h0.size ≤ b106 := Nat.le_trans K105.1 (Nat.le_of_eq g106.symm)
  have K127 : Keep h0 h106 [a1] := K105.ext E106
  have f128 : Arv Z h106 b106 k106 .long (2 : Int32) [(.long (0 : Int64)), (.long (0 : Int64))] (.long (0 : Int64)) := V106.pad (pad_rep [] (.long (0 : Int64)) 2)
  have f129 := (((((((pF_masks.ext E2).other W19 (Or.inr (slot_ne (Or.inl (hw _ (List.mem_of_getElem? (i := 28) rfl))) (Or.inr (hw _ (List.mem_of_getElem? (i := 22) rfl))) (by decide) (t := (.array .long)) (t' := (.array .long)) (by decide) (by decide)))).ext E33).other W53 (Or.inr (slot_ne (Or.inl (hw _ (List.mem_of_getElem? (i := 28) rfl))) (Or.inl (hw _ (List.mem_of_getElem? (i := 24) rfl))) (by decide) (t := (.array .long)) (t' := (.array .int)) (by decide) (by decide)))).ext E68).other W90 (Or.inr (slot_ne (Or.inl (hw _ (List.mem_of_getElem? (i := 28) rfl))) (Or.inl (hw _ (List.mem_of_getElem? (i := 26) rfl))) (by decide) (t := (.array .long)) (t' := (.array .int)) (by decide) (by decide)))).ext E106)
  refine o_putfield X106 hx hZ hown (host := "") (Or.inl (hw _ (List.mem_of_getElem? (i := 27) rfl))) Via.refl e106 f129 (E_90.ext E106) (Or.inl (hw _ (List.mem_of_getElem? (i := 28) rfl))) (hw _ (List.mem_of_getElem? (i := 1) rfl)) (ty := (.array .long)) (by decide) rfl rfl (hb hby d_prog_12_method_2_code_32) (n := 35) rfl ?_
  intro T130 h130 X130 e130 W130 F130 E_130
  have zz130 : n0 ≤ h130.size := Nat.le_trans zz106 (Nat.le_of_eq W130.size.symm)
  have N145 := Fr.snoc X130 N104 pg
  have K146 : Keep h0 h130 [a1] := K127.wr W130 (Or.inl (List.mem_of_getElem? (i := 0) rfl))
  refine o_aloadN X130 hx (hb hby d_prog_12_method_2_code_35) (v := (.ref a1)) rfl rfl (n := 36) rfl ?_
  refine o_iloadN X130 hx (hb hby d_prog_12_method_2_code_36) (v := (2 : Int32)) rfl (n := 37) rfl ?_
  refine o_newarray X130 hx hZ (aty := .int) (hw _ (List.mem_of_getElem? (i := 9) rfl)) e130 (hb hby d_prog_12_method_2_code_37) (by decide) 2 (by decide) (by decide) (by decide) (by decide) (n := 39) rfl ?_
  intro T147 h147 b147 k147 X147 e147 g147 E147 V147
  have ne148 : a1 ≠ b147 := Nat.ne_of_lt (Nat.lt_of_lt_of_eq E_130.lt g147.symm)
  have ne149 : q ≠ b147 := Nat.ne_of_lt (Nat.lt_of_lt_of_eq ((((((((pV.ext E2).other W19 (Ne.symm pne)).ext E33).other W53 (Ne.symm pne)).ext E68).other W90 (Ne.symm pne)).ext E106).other W130 (Ne.symm pne)).lt g147.symm)
  have ne150 : b2 ≠ b147 := Nat.ne_of_lt (Nat.lt_of_lt_of_eq (((((((f18.other W19 (Ne.symm ne3)).ext E33).other W53 (Ne.symm ne3)).ext E68).other W90 (Ne.symm ne3)).ext E106).other W130 (Ne.symm ne3)).lt g147.symm)
  have ne151 : b33 ≠ b147 := Nat.ne_of_lt (Nat.lt_of_lt_of_eq (((((f51.other W53 (Ne.symm ne34)).ext E68).other W90 (Ne.symm ne34)).ext E106).other W130 (Ne.symm ne34)).lt g147.symm)
  have ne152 : b68 ≠ b147 := Nat.ne_of_lt (Nat.lt_of_lt_of_eq (((f88.other W90 (Ne.symm ne69)).ext E106).other W130 (Ne.symm ne69)).lt g147.symm)
  have ne153 : b106 ≠ b147 := Nat.ne_of_lt (Nat.lt_of_lt_of_eq (f128.other W130 (Ne.symm ne107)).lt g147.symm)
  have gg147 : n0 ≤ b147 := Nat.le_trans zz130 (Nat.le_of_eq g147.symm)
  have zz147 : n0 ≤ h147.size := Nat.le_trans zz130 E147.1
  have sz147 : h0.size ≤ b147 := Nat.le_trans K146.1 (Nat.le_of_eq g147.symm)
  have K170 : Keep h0 h147 [a1] := K146.ext E147
  have f171 : Arv Z h147 b147 k147 .int (2 : Int32) [(.int (0 : Int32)), (.int (0 : Int32))] (.int (0 : Int32)) := V147.pad (pad_rep [] (.int (0 : Int32)) 2)
  have f172 := (((((((((pF_words.ext E2).other W19 (Or.inr (slot_ne (Or.inl (hw _ (List.mem_of_getElem? (i := 30) rfl))) (Or.inr (hw _ (List.mem_of_getElem? (i := 22) rfl))) (by decide) (t := (.array .int)) (t' := (.array .long)) (by decide) (by decide)))).ext E33).other W53 (Or.inr (slot_ne (Or.inl (hw _ (List.mem_of_getElem? (i := 30) rfl))) (Or.inl (hw _ (List.mem_of_getElem? (i := 24) rfl))) (by decide) (t := (.array .int)) (t' := (.array .int)) (by decide) (by decide)))).ext E68).other W90 (Or.inr (slot_ne (Or.inl (hw _ (List.mem_of_getElem? (i := 30) rfl))) (Or.inl (hw _ (List.mem_of_getElem? (i := 26) rfl))) (by decide) (t := (.array .int)) (t' := (.array .int)) (by decide) (by decide)))).ext E106).other W130 (Or.inr (slot_ne (Or.inl (hw _ (List.mem_of_getElem? (i := 30) rfl))) (Or.inl (hw _ (List.mem_of_getElem? (i := 28) rfl))) (by decide) (t := (.array .int)) (t' := (.array .long)) (by decide) (by decide)))).ext E147)
  refine o_putfield X147 hx hZ hown (host := "") (Or.inl (hw _ (List.mem_of_getElem? (i := 29) rfl))) Via.refl e147 f172 (E_130.ext E147) (Or.inl (hw _ (List.mem_of_getElem? (i := 30) rfl))) (hw _ (List.mem_of_getElem? (i := 1) rfl)) (ty := (.array .int)) (by decide) rfl rfl (hb hby d_prog_12_method_2_code_39) (n := 42) rfl ?_
  intro T173 h173 X173 e173 W173 F173 E_173
  have zz173 : n0 ≤ h173.size := Nat.le_trans zz147 (Nat.le_of_eq W173.size.symm)
  have N189 := Fr.snoc X173 N145 pg
  have K190 : Keep h0 h173 [a1] := K170.wr W173 (Or.inl (List.mem_of_getElem? (i := 0) rfl))
  refine o_aloadN X173 hx (hb hby d_prog_12_method_2_code_42) (v := (.ref a1)) rfl rfl (n := 43) rfl ?_
  refine o_iloadN X173 hx (hb hby d_prog_12_method_2_code_43) (v := (2 : Int32)) rfl (n := 44) rfl ?_
  refine o_newarray X173 hx hZ (aty := .int) (hw _ (List.mem_of_getElem? (i := 9) rfl)) e173 (hb hby d_prog_12_method_2_code_44) (by decide) 2 (by decide) (by decide) (by decide) (by decide) (n := 46) rfl ?_
  intro T191 h191 b191 k191 X191 e191 g191 E191 V191
  have ne192 : a1 ≠ b191 := Nat.ne_of_lt (Nat.lt_of_lt_of_eq E_173.lt g191.symm)
  have ne193 : q ≠ b191 := Nat.ne_of_lt (Nat.lt_of_lt_of_eq ((((((((((pV.ext E2).other W19 (Ne.symm pne)).ext E33).other W53 (Ne.symm pne)).ext E68).other W90 (Ne.symm pne)).ext E106).other W130 (Ne.symm pne)).ext E147).other W173 (Ne.symm pne)).lt g191.symm)
  have ne194 : b2 ≠ b191 := Nat.ne_of_lt (Nat.lt_of_lt_of_eq (((((((((f18.other W19 (Ne.symm ne3)).ext E33).other W53 (Ne.symm ne3)).ext E68).other W90 (Ne.symm ne3)).ext E106).other W130 (Ne.symm ne3)).ext E147).other W173 (Ne.symm ne3)).lt g191.symm)
  have ne195 : b33 ≠ b191 := Nat.ne_of_lt (Nat.lt_of_lt_of_eq (((((((f51.other W53 (Ne.symm ne34)).ext E68).other W90 (Ne.symm ne34)).ext E106).other W130 (Ne.symm ne34)).ext E147).other W173 (Ne.symm ne34)).lt g191.symm)
  have ne196 : b68 ≠ b191 := Nat.ne_of_lt (Nat.lt_of_lt_of_eq (((((f88.other W90 (Ne.symm ne69)).ext E106).other W130 (Ne.symm ne69)).ext E147).other W173 (Ne.symm ne69)).lt g191.symm)
  have ne197 : b106 ≠ b191 := Nat.ne_of_lt (Nat.lt_of_lt_of_eq (((f128.other W130 (Ne.symm ne107)).ext E147).other W173 (Ne.symm ne107)).lt g191.symm)
  have ne198 : b147 ≠ b191 := Nat.ne_of_lt (Nat.lt_of_lt_of_eq (f171.other W173 (Ne.symm ne148)).lt g191.symm)
  have gg191 : n0 ≤ b191 := Nat.le_trans zz173 (Nat.le_of_eq g191.symm)
  have zz191 : n0 ≤ h191.size := Nat.le_trans zz173 E191.1
  have sz191 : h0.size ≤ b191 := Nat.le_trans K190.1 (Nat.le_of_eq g191.symm)
  have K216 : Keep h0 h191 [a1] := K190.ext E191
  have f217 : Arv Z h191 b191 k191 .int (2 : Int32) [(.int (0 : Int32)), (.int (0 : Int32))] (.int (0 : Int32)) := V191.pad (pad_rep [] (.int (0 : Int32)) 2)
  have f218 := (((((((((((pF_shifts.ext E2).other W19 (Or.inr (slot_ne (Or.inl (hw _ (List.mem_of_getElem? (i := 32) rfl))) (Or.inr (hw _ (List.mem_of_getElem? (i := 22) rfl))) (by decide) (t := (.array .int)) (t' := (.array .long)) (by decide) (by decide)))).ext E33).other W53 (Or.inr (slot_ne (Or.inl (hw _ (List.mem_of_getElem? (i := 32) rfl))) (Or.inl (hw _ (List.mem_of_getElem? (i := 24) rfl))) (by decide) (t := (.array .int)) (t' := (.array .int)) (by decide) (by decide)))).ext E68).other W90 (Or.inr (slot_ne (Or.inl (hw _ (List.mem_of_getElem? (i := 32) rfl))) (Or.inl (hw _ (List.mem_of_getElem? (i := 26) rfl))) (by decide) (t := (.array .int)) (t' := (.array .int)) (by decide) (by decide)))).ext E106).other W130 (Or.inr (slot_ne (Or.inl (hw _ (List.mem_of_getElem? (i := 32) rfl))) (Or.inl (hw _ (List.mem_of_getElem? (i := 28) rfl))) (by decide) (t := (.array .int)) (t' := (.array .long)) (by decide) (by decide)))).ext E147).other W173 (Or.inr (slot_ne (Or.inl (hw _ (List.mem_of_getElem? (i := 32) rfl))) (Or.inl (hw _ (List.mem_of_getElem? (i := 30) rfl))) (by decide) (t := (.array .int)) (t' := (.array .int)) (by decide) (by decide)))).ext E191)
  refine o_putfield X191 hx hZ hown (host := "") (Or.inl (hw _ (List.mem_of_getElem? (i := 31) rfl))) Via.refl e191 f218 (E_173.ext E191) (Or.inl (hw _ (List.mem_of_getElem? (i := 32) rfl))) (hw _ (List.mem_of_getElem? (i := 1) rfl)) (ty := (.array .int)) (by decide) rfl rfl (hb hby d_prog_12_method_2_code_46) (n := 49) rfl ?_
  intro T219 h219 X219 e219 W219 F219 E_219
  have zz219 : n0 ≤ h219.size := Nat.le_trans zz191 (Nat.le_of_eq W219.size.symm)
  have N236 := Fr.snoc X219 N189 pg
  have K237 : Keep h0 h219 [a1] := K216.wr W219 (Or.inl (List.mem_of_getElem? (i := 0) rfl))
  refine o_aloadN X219 hx (hb hby d_prog_12_method_2_code_49) (v := (.ref a1)) rfl rfl (n := 50) rfl ?_
  refine o_iloadN X219 hx (hb hby d_prog_12_method_2_code_50) (v := (2 : Int32)) rfl (n := 51) rfl ?_
  refine o_newarray X219 hx hZ (aty := .int) (hw _ (List.mem_of_getElem? (i := 9) rfl)) e219 (hb hby d_prog_12_method_2_code_51) (by decide) 2 (by decide) (by decide) (by decide) (by decide) (n := 53) rfl ?_
  intro T238 h238 b238 k238 X238 e238 g238 E238 V238
  have ne239 : a1 ≠ b238 := Nat.ne_of_lt (Nat.lt_of_lt_of_eq E_219.lt g238.symm)
  have ne240 : q ≠ b238 := Nat.ne_of_lt (Nat.lt_of_lt_of_eq ((((((((((((pV.ext E2).other W19 (Ne.symm pne)).ext E33).other W53 (Ne.symm pne)).ext E68).other W90 (Ne.symm pne)).ext E106).other W130 (Ne.symm pne)).ext E147).other W173 (Ne.symm pne)).ext E191).other W219 (Ne.symm pne)).lt g238.symm)
  have ne241 : b2 ≠ b238 := Nat.ne_of_lt (Nat.lt_of_lt_of_eq (((((((((((f18.other W19 (Ne.symm ne3)).ext E33).other W53 (Ne.symm ne3)).ext E68).other W90 (Ne.symm ne3)).ext E106).other W130 (Ne.symm ne3)).ext E147).other W173 (Ne.symm ne3)).ext E191).other W219 (Ne.symm ne3)).lt g238.symm)
  have ne242 : b33 ≠ b238 := Nat.ne_of_lt (Nat.lt_of_lt_of_eq (((((((((f51.other W53 (Ne.symm ne34)).ext E68).other W90 (Ne.symm ne34)).ext E106).other W130 (Ne.symm ne34)).ext E147).other W173 (Ne.symm ne34)).ext E191).other W219 (Ne.symm ne34)).lt g238.symm)
  have ne243 : b68 ≠ b238 := Nat.ne_of_lt (Nat.lt_of_lt_of_eq (((((((f88.other W90 (Ne.symm ne69)).ext E106).other W130 (Ne.symm ne69)).ext E147).other W173 (Ne.symm ne69)).ext E191).other W219 (Ne.symm ne69)).lt g238.symm)
  have ne244 : b106 ≠ b238 := Nat.ne_of_lt (Nat.lt_of_lt_of_eq (((((f128.other W130 (Ne.symm ne107)).ext E147).other W173 (Ne.symm ne107)).ext E191).other W219 (Ne.symm ne107)).lt g238.symm)
  have ne245 : b147 ≠ b238 := Nat.ne_of_lt (Nat.lt_of_lt_of_eq (((f171.other W173 (Ne.symm ne148)).ext E191).other W219 (Ne.symm ne148)).lt g238.symm)
  have ne246 : b191 ≠ b238 := Nat.ne_of_lt (Nat.lt_of_lt_of_eq (f217.other W219 (Ne.symm ne192)).lt g238.symm)
  have gg238 : n0 ≤ b238 := Nat.le_trans zz219 (Nat.le_of_eq g238.symm)
  have zz238 : n0 ≤ h238.size := Nat.le_trans zz219 E238.1
  have sz238 : h0.size ≤ b238 := Nat.le_trans K237.1 (Nat.le_of_eq g238.symm)
  have K265 : Keep h0 h238 [a1] := K237.ext E238
  have f266 : Arv Z h238 b238 k238 .int (2 : Int32) [(.int (0 : Int32)), (.int (0 : Int32))] (.int (0 : Int32)) := V238.pad (pad_rep [] (.int (0 : Int32)) 2)
  have f267 := (((((((((((((pF_nexts.ext E2).other W19 (Or.inr (slot_ne (Or.inl (hw _ (List.mem_of_getElem? (i := 34) rfl))) (Or.inr (hw _ (List.mem_of_getElem? (i := 22) rfl))) (by decide) (t := (.array .int)) (t' := (.array .long)) (by decide) (by decide)))).ext E33).other W53 (Or.inr (slot_ne (Or.inl (hw _ (List.mem_of_getElem? (i := 34) rfl))) (Or.inl (hw _ (List.mem_of_getElem? (i := 24) rfl))) (by decide) (t := (.array .int)) (t' := (.array .int)) (by decide) (by decide)))).ext E68).other W90 (Or.inr (slot_ne (Or.inl (hw _ (List.mem_of_getElem? (i := 34) rfl))) (Or.inl (hw _ (List.mem_of_getElem? (i := 26) rfl))) (by decide) (t := (.array .int)) (t' := (.array .int)) (by decide) (by decide)))).ext E106).other W130 (Or.inr (slot_ne (Or.inl (hw _ (List.mem_of_getElem? (i := 34) rfl))) (Or.inl (hw _ (List.mem_of_getElem? (i := 28) rfl))) (by decide) (t := (.array .int)) (t' := (.array .long)) (by decide) (by decide)))).ext E147).other W173 (Or.inr (slot_ne (Or.inl (hw _ (List.mem_of_getElem? (i := 34) rfl))) (Or.inl (hw _ (List.mem_of_getElem? (i := 30) rfl))) (by decide) (t := (.array .int)) (t' := (.array .int)) (by decide) (by decide)))).ext E191).other W219 (Or.inr (slot_ne (Or.inl (hw _ (List.mem_of_getElem? (i := 34) rfl))) (Or.inl (hw _ (List.mem_of_getElem? (i := 32) rfl))) (by decide) (t := (.array .int)) (t' := (.array .int)) (by decide) (by decide)))).ext E238)
  refine o_putfield X238 hx hZ hown (host := "") (Or.inl (hw _ (List.mem_of_getElem? (i := 33) rfl))) Via.refl e238 f267 (E_219.ext E238) (Or.inl (hw _ (List.mem_of_getElem? (i := 34) rfl))) (hw _ (List.mem_of_getElem? (i := 1) rfl)) (ty := (.array .int)) (by decide) rfl rfl (hb hby d_prog_12_method_2_code_53) (n := 56) rfl ?_
  intro T268 h268 X268 e268 W268 F268 E_268
  have zz268 : n0 ≤ h268.size := Nat.le_trans zz238 (Nat.le_of_eq W268.size.symm)
  have N286 := Fr.snoc X268 N236 pg
  have K287 : Keep h0 h268 [a1] := K265.wr W268 (Or.inl (List.mem_of_getElem? (i := 0) rfl))
  refine o_aloadN X268 hx (hb hby d_prog_12_method_2_code_56) (v := (.ref a1)) rfl rfl (n := 57) rfl ?_
  refine o_iloadN X268 hx (hb hby d_prog_12_method_2_code_57) (v := (2 : Int32)) rfl (n := 58) rfl ?_
  refine o_newarray X268 hx hZ (aty := .int) (hw _ (List.mem_of_getElem? (i := 9) rfl)) e268 (hb hby d_prog_12_method_2_code_58) (by decide) 2 (by decide) (by decide) (by decide) (by decide) (n := 60) rfl ?_
  intro T288 h288 b288 k288 X288 e288 g288 E288 V288
  have ne289 : a1 ≠ b288 := Nat.ne_of_lt (Nat.lt_of_lt_of_eq E_268.lt g288.symm)
  have ne290 : q ≠ b288 := Nat.ne_of_lt (Nat.lt_of_lt_of_eq ((((((((((((((pV.ext E2).other W19 (Ne.symm pne)).ext E33).other W53 (Ne.symm pne)).ext E68).other W90 (Ne.symm pne)).ext E106).other W130 (Ne.symm pne)).ext E147).other W173 (Ne.symm pne)).ext E191).other W219 (Ne.symm pne)).ext E238).other W268 (Ne.symm pne)).lt g288.symm)
  have ne291 : b2 ≠ b288 := Nat.ne_of_lt (Nat.lt_of_lt_of_eq (((((((((((((f18.other W19 (Ne.symm ne3)).ext E33).other W53 (Ne.symm ne3)).ext E68).other W90 (Ne.symm ne3)).ext E106).other W130 (Ne.symm ne3)).ext E147).other W173 (Ne.symm ne3)).ext E191).other W219 (Ne.symm ne3)).ext E238).other W268 (Ne.symm ne3)).lt g288.symm)
  have ne292 : b33 ≠ b288 := Nat.ne_of_lt (Nat.lt_of_lt_of_eq (((((((((((f51.other W53 (Ne.symm ne34)).ext E68).other W90 (Ne.symm ne34)).ext E106).other W130 (Ne.symm ne34)).ext E147).other W173 (Ne.symm ne34)).ext E191).other W219 (Ne.symm ne34)).ext E238).other W268 (Ne.symm ne34)).lt g288.symm)
  have ne293 : b68 ≠ b288 := Nat.ne_of_lt (Nat.lt_of_lt_of_eq (((((((((f88.other W90 (Ne.symm ne69)).ext E106).other W130 (Ne.symm ne69)).ext E147).other W173 (Ne.symm ne69)).ext E191).other W219 (Ne.symm ne69)).ext E238).other W268 (Ne.symm ne69)).lt g288.symm)
  have ne294 : b106 ≠ b288 := Nat.ne_of_lt (Nat.lt_of_lt_of_eq (((((((f128.other W130 (Ne.symm ne107)).ext E147).other W173 (Ne.symm ne107)).ext E191).other W219 (Ne.symm ne107)).ext E238).other W268 (Ne.symm ne107)).lt g288.symm)
  have ne295 : b147 ≠ b288 := Nat.ne_of_lt (Nat.lt_of_lt_of_eq (((((f171.other W173 (Ne.symm ne148)).ext E191).other W219 (Ne.symm ne148)).ext E238).other W268 (Ne.symm ne148)).lt g288.symm)
  have ne296 : b191 ≠ b288 := Nat.ne_of_lt (Nat.lt_of_lt_of_eq (((f217.other W219 (Ne.symm ne192)).ext E238).other W268 (Ne.symm ne192)).lt g288.symm)
  have ne297 : b238 ≠ b288 := Nat.ne_of_lt (Nat.lt_of_lt_of_eq (f266.other W268 (Ne.symm ne239)).lt g288.symm)
  have gg288 : n0 ≤ b288 := Nat.le_trans zz268 (Nat.le_of_eq g288.symm)
  have zz288 : n0 ≤ h288.size := Nat.le_trans zz268 E288.1
  have sz288 : h0.size ≤ b288 := Nat.le_trans K287.1 (Nat.le_of_eq g288.symm)
  have K317 : Keep h0 h288 [a1] := K287.ext E288
  have f318 : Arv Z h288 b288 k288 .int (2 : Int32) [(.int (0 : Int32)), (.int (0 : Int32))] (.int (0 : Int32)) := V288.pad (pad_rep [] (.int (0 : Int32)) 2)
  have f319 := (((((((((((((((pF_tops.ext E2).other W19 (Or.inr (slot_ne (Or.inl (hw _ (List.mem_of_getElem? (i := 36) rfl))) (Or.inr (hw _ (List.mem_of_getElem? (i := 22) rfl))) (by decide) (t := (.array .int)) (t' := (.array .long)) (by decide) (by decide)))).ext E33).other W53 (Or.inr (slot_ne (Or.inl (hw _ (List.mem_of_getElem? (i := 36) rfl))) (Or.inl (hw _ (List.mem_of_getElem? (i := 24) rfl))) (by decide) (t := (.array .int)) (t' := (.array .int)) (by decide) (by decide)))).ext E68).other W90 (Or.inr (slot_ne (Or.inl (hw _ (List.mem_of_getElem? (i := 36) rfl))) (Or.inl (hw _ (List.mem_of_getElem? (i := 26) rfl))) (by decide) (t := (.array .int)) (t' := (.array .int)) (by decide) (by decide)))).ext E106).other W130 (Or.inr (slot_ne (Or.inl (hw _ (List.mem_of_getElem? (i := 36) rfl))) (Or.inl (hw _ (List.mem_of_getElem? (i := 28) rfl))) (by decide) (t := (.array .int)) (t' := (.array .long)) (by decide) (by decide)))).ext E147).other W173 (Or.inr (slot_ne (Or.inl (hw _ (List.mem_of_getElem? (i := 36) rfl))) (Or.inl (hw _ (List.mem_of_getElem? (i := 30) rfl))) (by decide) (t := (.array .int)) (t' := (.array .int)) (by decide) (by decide)))).ext E191).other W219 (Or.inr (slot_ne (Or.inl (hw _ (List.mem_of_getElem? (i := 36) rfl))) (Or.inl (hw _ (List.mem_of_getElem? (i := 32) rfl))) (by decide) (t := (.array .int)) (t' := (.array .int)) (by decide) (by decide)))).ext E238).other W268 (Or.inr (slot_ne (Or.inl (hw _ (List.mem_of_getElem? (i := 36) rfl))) (Or.inl (hw _ (List.mem_of_getElem? (i := 34) rfl))) (by decide) (t := (.array .int)) (t' := (.array .int)) (by decide) (by decide)))).ext E288)
  refine o_putfield X288 hx hZ hown (host := "") (Or.inl (hw _ (List.mem_of_getElem? (i := 35) rfl))) Via.refl e288 f319 (E_268.ext E288) (Or.inl (hw _ (List.mem_of_getElem? (i := 36) rfl))) (hw _ (List.mem_of_getElem? (i := 1) rfl)) (ty := (.array .int)) (by decide) rfl rfl (hb hby d_prog_12_method_2_code_60) (n := 63) rfl ?_
  intro T320 h320 X320 e320 W320 F320 E_320
  have zz320 : n0 ≤ h320.size := Nat.le_trans zz288 (Nat.le_of_eq W320.size.symm)
  have N339 := Fr.snoc X320 N286 pg
  have K340 : Keep h0 h320 [a1] := K317.wr W320 (Or.inl (List.mem_of_getElem? (i := 0) rfl))
  refine o_iconst X320 hx (hb hby d_prog_12_method_2_code_63) (v := (0 : Int32)) rfl (n := 64) rfl ?_
  refine o_istoreN X320 hx (hb hby d_prog_12_method_2_code_64) (Ls' := #[.val (.ref a1), .val (.ref q), .val (.int (2 : Int32)), .val (.int (0 : Int32))]) rfl (n := 65) rfl ?_
  refine o_iloadN X320 hx (hb hby d_prog_12_method_2_code_65) (v := (0 : Int32)) rfl (n := 66) rfl ?_
  refine o_iloadN X320 hx (hb hby d_prog_12_method_2_code_66) (v := (2 : Int32)) rfl (n := 67) rfl ?_
  refine o_icmpN X320 hx (hb hby d_prog_12_method_2_code_67) (XT.ii_ge_f (by decide)) (n := 70) rfl ?_
  refine o_aloadN X320 hx (hb hby d_prog_12_method_2_code_70) (v := (.ref a1)) rfl rfl (n := 71) rfl ?_
  have f341 := ((((((((((((((F19.ext E33).other W53 (Or.inr (slot_ne (Or.inr (hw _ (List.mem_of_getElem? (i := 22) rfl))) (Or.inl (hw _ (List.mem_of_getElem? (i := 24) rfl))) (by decide) (t := (.array .long)) (t' := (.array .int)) (by decide) (by decide)))).ext E68).other W90 (Or.inr (slot_ne (Or.inr (hw _ (List.mem_of_getElem? (i := 22) rfl))) (Or.inl (hw _ (List.mem_of_getElem? (i := 26) rfl))) (by decide) (t := (.array .long)) (t' := (.array .int)) (by decide) (by decide)))).ext E106).other W130 (Or.inr (slot_ne (Or.inr (hw _ (List.mem_of_getElem? (i := 22) rfl))) (Or.inl (hw _ (List.mem_of_getElem? (i := 28) rfl))) (by decide) (t := (.array .long)) (t' := (.array .long)) (by decide) (by decide)))).ext E147).other W173 (Or.inr (slot_ne (Or.inr (hw _ (List.mem_of_getElem? (i := 22) rfl))) (Or.inl (hw _ (List.mem_of_getElem? (i := 30) rfl))) (by decide) (t := (.array .long)) (t' := (.array .int)) (by decide) (by decide)))).ext E191).other W219 (Or.inr (slot_ne (Or.inr (hw _ (List.mem_of_getElem? (i := 22) rfl))) (Or.inl (hw _ (List.mem_of_getElem? (i := 32) rfl))) (by decide) (t := (.array .long)) (t' := (.array .int)) (by decide) (by decide)))).ext E238).other W268 (Or.inr (slot_ne (Or.inr (hw _ (List.mem_of_getElem? (i := 22) rfl))) (Or.inl (hw _ (List.mem_of_getElem? (i := 34) rfl))) (by decide) (t := (.array .long)) (t' := (.array .int)) (by decide) (by decide)))).ext E288).other W320 (Or.inr (slot_ne (Or.inr (hw _ (List.mem_of_getElem? (i := 22) rfl))) (Or.inl (hw _ (List.mem_of_getElem? (i := 36) rfl))) (by decide) (t := (.array .long)) (t' := (.array .int)) (by decide) (by decide))))
  refine o_getfield X320 hx hZ hown (host := "") (Or.inl (hw _ (List.mem_of_getElem? (i := 21) rfl))) Via.refl e320 f341 (hb hby d_prog_12_method_2_code_71) (n := 74) rfl ?_
  intro T342 X342 e342
  refine o_iloadN X342 hx (hb hby d_prog_12_method_2_code_74) (v := (0 : Int32)) rfl (n := 75) rfl ?_
  refine o_ldc2_w X342 hx hZ (v := (-1 : Int64)) hown (hw _ (List.mem_of_getElem? (i := 37) rfl)) (hb hby d_prog_12_method_2_code_75) (n := 78) rfl ?_
  refine o_bipush X342 hx (hb hby d_prog_12_method_2_code_78) (v := (64 : Int32)) rfl (n := 80) rfl ?_
  refine o_aloadN X342 hx (hb hby d_prog_12_method_2_code_80) (v := (.ref q)) rfl rfl (n := 81) rfl ?_
  refine o_iloadN X342 hx (hb hby d_prog_12_method_2_code_81) (v := (0 : Int32)) rfl (n := 82) rfl ?_
  have f343 := ((((((((((((((((pV.ext E2).other W19 (Ne.symm pne)).ext E33).other W53 (Ne.symm pne)).ext E68).other W90 (Ne.symm pne)).ext E106).other W130 (Ne.symm pne)).ext E147).other W173 (Ne.symm pne)).ext E191).other W219 (Ne.symm pne)).ext E238).other W268 (Ne.symm pne)).ext E288).other W320 (Ne.symm pne))
  refine o_iaload X342 hx hZ e342 f343 (0) (by decide) (by decide) (v := (.int (1 : Int32))) rfl (hb hby d_prog_12_method_2_code_82) (n := 83) rfl ?_
  refine o_isub X342 hx (hb hby d_prog_12_method_2_code_83) (v := (63 : Int32)) (by decide) (n := 84) rfl ?_
  refine o_lushr X342 hx (hb hby d_prog_12_method_2_code_84) (v := (1 : Int64)) (by decide) (n := 85) rfl ?_
  have f344 := (((((((((((((((f18.other W19 (Ne.symm ne3)).ext E33).other W53 (Ne.symm ne3)).ext E68).other W90 (Ne.symm ne3)).ext E106).other W130 (Ne.symm ne3)).ext E147).other W173 (Ne.symm ne3)).ext E191).other W219 (Ne.symm ne3)).ext E238).other W268 (Ne.symm ne3)).ext E288).other W320 (Ne.symm ne3))
  refine o_lastore X342 hx hZ e342 f344 (0) (by decide) (by decide) (Nat.le_of_ble_eq_true rfl) (w := (.long (1 : Int64))) rfl (vs' := [(.long (1 : Int64)), (.long (0 : Int64))]) rfl (hb hby d_prog_12_method_2_code_85) (n := 86) rfl ?_
  intro T345 h345 X345 e345 W345 V345
  have zz345 : n0 ≤ h345.size := Nat.le_trans zz320 (Nat.le_of_eq W345.size.symm)
  have N365 := Fr.snoc X345 N339 gg2
  have K366 : Keep h0 h345 [a1] := K340.wr W345 (Or.inr sz2)
  refine o_aloadN X345 hx (hb hby d_prog_12_method_2_code_86) (v := (.ref a1)) rfl rfl (n := 87) rfl ?_
  refine o_iloadN X345 hx (hb hby d_prog_12_method_2_code_87) (v := (0 : Int32)) rfl (n := 88) rfl ?_
  refine o_iconst X345 hx (hb hby d_prog_12_method_2_code_88) (v := (0 : Int32)) rfl (n := 89) rfl ?_
  refine o_aloadN X345 hx (hb hby d_prog_12_method_2_code_89) (v := (.ref q)) rfl rfl (n := 90) rfl ?_
  refine o_iloadN X345 hx (hb hby d_prog_12_method_2_code_90) (v := (0 : Int32)) rfl (n := 91) rfl ?_
  refine o_iaload X345 hx hZ e345 (f343.other W345 ne4) (0) (by decide) (by decide) (v := (.int (1 : Int32))) rfl (hb hby d_prog_12_method_2_code_91) (n := 92) rfl ?_
  refine o_iconst X345 hx (hb hby d_prog_12_method_2_code_92) (v := (0 : Int32)) rfl (n := 93) rfl ?_
  refine o_aloadN X345 hx (hb hby d_prog_12_method_2_code_93) (v := (.ref a1)) rfl rfl (n := 94) rfl ?_
  have f367 := (((((((((((((((((pF_length.ext E2).other W19 (Or.inr (slot_ne (Or.inl (hw _ (List.mem_of_getElem? (i := 39) rfl))) (Or.inr (hw _ (List.mem_of_getElem? (i := 22) rfl))) (by decide) (t := .int) (t' := (.array .long)) (by decide) (by decide)))).ext E33).other W53 (Or.inr (slot_ne (Or.inl (hw _ (List.mem_of_getElem? (i := 39) rfl))) (Or.inl (hw _ (List.mem_of_getElem? (i := 24) rfl))) (by decide) (t := .int) (t' := (.array .int)) (by decide) (by decide)))).ext E68).other W90 (Or.inr (slot_ne (Or.inl (hw _ (List.mem_of_getElem? (i := 39) rfl))) (Or.inl (hw _ (List.mem_of_getElem? (i := 26) rfl))) (by decide) (t := .int) (t' := (.array .int)) (by decide) (by decide)))).ext E106).other W130 (Or.inr (slot_ne (Or.inl (hw _ (List.mem_of_getElem? (i := 39) rfl))) (Or.inl (hw _ (List.mem_of_getElem? (i := 28) rfl))) (by decide) (t := .int) (t' := (.array .long)) (by decide) (by decide)))).ext E147).other W173 (Or.inr (slot_ne (Or.inl (hw _ (List.mem_of_getElem? (i := 39) rfl))) (Or.inl (hw _ (List.mem_of_getElem? (i := 30) rfl))) (by decide) (t := .int) (t' := (.array .int)) (by decide) (by decide)))).ext E191).other W219 (Or.inr (slot_ne (Or.inl (hw _ (List.mem_of_getElem? (i := 39) rfl))) (Or.inl (hw _ (List.mem_of_getElem? (i := 32) rfl))) (by decide) (t := .int) (t' := (.array .int)) (by decide) (by decide)))).ext E238).other W268 (Or.inr (slot_ne (Or.inl (hw _ (List.mem_of_getElem? (i := 39) rfl))) (Or.inl (hw _ (List.mem_of_getElem? (i := 34) rfl))) (by decide) (t := .int) (t' := (.array .int)) (by decide) (by decide)))).ext E288).other W320 (Or.inr (slot_ne (Or.inl (hw _ (List.mem_of_getElem? (i := 39) rfl))) (Or.inl (hw _ (List.mem_of_getElem? (i := 36) rfl))) (by decide) (t := .int) (t' := (.array .int)) (by decide) (by decide)))).other W345 (Or.inl ne3))
  refine o_getfield X345 hx hZ hown (host := "") (Or.inl (hw _ (List.mem_of_getElem? (i := 38) rfl))) Via.refl e345 f367 (hb hby d_prog_12_method_2_code_94) (n := 97) rfl ?_
  intro T368 X368 e368
  refine o_iconst X368 hx (hb hby d_prog_12_method_2_code_97) (v := (1 : Int32)) rfl (n := 98) rfl ?_
  refine o_isub X368 hx (hb hby d_prog_12_method_2_code_98) (v := (-1 : Int32)) (by decide) (n := 99) rfl ?_
  refine o_callS X368 hx hZ hown (hw _ (List.mem_of_getElem? (i := 40) rfl)) (hw _ (List.mem_of_getElem? (i := 41) rfl)) (hw _ (List.mem_of_getElem? (i := 42) rfl)) (hw _ (List.mem_of_getElem? (i := 43) rfl)) (by decide) e368 (argsL := [(.int (0 : Int32)), (.int (-1 : Int32))]) (rest := [(.int (1 : Int32)), (.int (0 : Int32)), (.int (0 : Int32)), (.ref a1)]) ((show o_mx (0 : Int32) (-1 : Int32) = 0 by decide) ▸ c_max l Z a0 hw (0 : Int32) (-1 : Int32) h345) 4 (by decide) (by decide) (by decide) (by decide) (by rw [hml]; rfl) (lenOf o_pd3 rfl) rfl (Nat.le_of_eq rfl) (hb hby d_prog_12_method_2_code_99) (n := 102) rfl ?_
  intro v369 T369 L369 X369 q369
  obtain ⟨rfl, e369, rfl⟩ := q369
  have N370 := Fr.app N365 (Fr.nil n0)
  show Goes p e below s _ _ _ (T369.setTop (mkF m 102 #[.val (.ref a1), .val (.ref q), .val (.int (2 : Int32)), .val (.int (0 : Int32))] [(.int (0 : Int32)), (.int (1 : Int32)), (.int (0 : Int32)), (.int (0 : Int32)), (.ref a1)]))
  obtain ⟨AA, LL, sub0, niq⟩ : ∃ AA : o_A, o_L Z h345 n0 a1 AA o_D0 ∧ (∀ y ∈ a1 :: AA.all, y ∈ [a1] ∨ h0.size ≤ y) ∧ q ∉ a1 :: AA.all := ⟨⟨b2, b33, b68, b106, b147, b191, b238, b288, k2, k33, k68, k106, k147, k191, k238, k288⟩, o_mk0 (o_nd9 ne3 ne34 ne69 ne107 ne148 ne192 ne239 ne289 ne36 ne71 ne109 ne150 ne194 ne241 ne291 ne72 ne110 ne151 ne195 ne242 ne292 ne111 ne152 ne196 ne243 ne293 ne153 ne197 ne244 ne294 ne198 ne245 ne295 ne246 ne296 ne297) (o_all9 (P := fun y => n0 ≤ y) pg gg2 gg33 gg68 gg106 gg147 gg191 gg238 gg288) (E_320.wr W345) (f341.other W345 (Or.inl ne3)) (((((((((((((F53.ext E68).other W90 (Or.inr (slot_ne (Or.inl (hw _ (List.mem_of_getElem? (i := 24) rfl))) (Or.inl (hw _ (List.mem_of_getElem? (i := 26) rfl))) (by decide) (t := (.array .int)) (t' := (.array .int)) (by decide) (by decide)))).ext E106).other W130 (Or.inr (slot_ne (Or.inl (hw _ (List.mem_of_getElem? (i := 24) rfl))) (Or.inl (hw _ (List.mem_of_getElem? (i := 28) rfl))) (by decide) (t := (.array .int)) (t' := (.array .long)) (by decide) (by decide)))).ext E147).other W173 (Or.inr (slot_ne (Or.inl (hw _ (List.mem_of_getElem? (i := 24) rfl))) (Or.inl (hw _ (List.mem_of_getElem? (i := 30) rfl))) (by decide) (t := (.array .int)) (t' := (.array .int)) (by decide) (by decide)))).ext E191).other W219 (Or.inr (slot_ne (Or.inl (hw _ (List.mem_of_getElem? (i := 24) rfl))) (Or.inl (hw _ (List.mem_of_getElem? (i := 32) rfl))) (by decide) (t := (.array .int)) (t' := (.array .int)) (by decide) (by decide)))).ext E238).other W268 (Or.inr (slot_ne (Or.inl (hw _ (List.mem_of_getElem? (i := 24) rfl))) (Or.inl (hw _ (List.mem_of_getElem? (i := 34) rfl))) (by decide) (t := (.array .int)) (t' := (.array .int)) (by decide) (by decide)))).ext E288).other W320 (Or.inr (slot_ne (Or.inl (hw _ (List.mem_of_getElem? (i := 24) rfl))) (Or.inl (hw _ (List.mem_of_getElem? (i := 36) rfl))) (by decide) (t := (.array .int)) (t' := (.array .int)) (by decide) (by decide)))).other W345 (Or.inl ne3)) (((((((((((F90.ext E106).other W130 (Or.inr (slot_ne (Or.inl (hw _ (List.mem_of_getElem? (i := 26) rfl))) (Or.inl (hw _ (List.mem_of_getElem? (i := 28) rfl))) (by decide) (t := (.array .int)) (t' := (.array .long)) (by decide) (by decide)))).ext E147).other W173 (Or.inr (slot_ne (Or.inl (hw _ (List.mem_of_getElem? (i := 26) rfl))) (Or.inl (hw _ (List.mem_of_getElem? (i := 30) rfl))) (by decide) (t := (.array .int)) (t' := (.array .int)) (by decide) (by decide)))).ext E191).other W219 (Or.inr (slot_ne (Or.inl (hw _ (List.mem_of_getElem? (i := 26) rfl))) (Or.inl (hw _ (List.mem_of_getElem? (i := 32) rfl))) (by decide) (t := (.array .int)) (t' := (.array .int)) (by decide) (by decide)))).ext E238).other W268 (Or.inr (slot_ne (Or.inl (hw _ (List.mem_of_getElem? (i := 26) rfl))) (Or.inl (hw _ (List.mem_of_getElem? (i := 34) rfl))) (by decide) (t := (.array .int)) (t' := (.array .int)) (by decide) (by decide)))).ext E288).other W320 (Or.inr (slot_ne (Or.inl (hw _ (List.mem_of_getElem? (i := 26) rfl))) (Or.inl (hw _ (List.mem_of_getElem? (i := 36) rfl))) (by decide) (t := (.array .int)) (t' := (.array .int)) (by decide) (by decide)))).other W345 (Or.inl ne3)) (((((((((F130.ext E147).other W173 (Or.inr (slot_ne (Or.inl (hw _ (List.mem_of_getElem? (i := 28) rfl))) (Or.inl (hw _ (List.mem_of_getElem? (i := 30) rfl))) (by decide) (t := (.array .long)) (t' := (.array .int)) (by decide) (by decide)))).ext E191).other W219 (Or.inr (slot_ne (Or.inl (hw _ (List.mem_of_getElem? (i := 28) rfl))) (Or.inl (hw _ (List.mem_of_getElem? (i := 32) rfl))) (by decide) (t := (.array .long)) (t' := (.array .int)) (by decide) (by decide)))).ext E238).other W268 (Or.inr (slot_ne (Or.inl (hw _ (List.mem_of_getElem? (i := 28) rfl))) (Or.inl (hw _ (List.mem_of_getElem? (i := 34) rfl))) (by decide) (t := (.array .long)) (t' := (.array .int)) (by decide) (by decide)))).ext E288).other W320 (Or.inr (slot_ne (Or.inl (hw _ (List.mem_of_getElem? (i := 28) rfl))) (Or.inl (hw _ (List.mem_of_getElem? (i := 36) rfl))) (by decide) (t := (.array .long)) (t' := (.array .int)) (by decide) (by decide)))).other W345 (Or.inl ne3)) (((((((F173.ext E191).other W219 (Or.inr (slot_ne (Or.inl (hw _ (List.mem_of_getElem? (i := 30) rfl))) (Or.inl (hw _ (List.mem_of_getElem? (i := 32) rfl))) (by decide) (t := (.array .int)) (t' := (.array .int)) (by decide) (by decide)))).ext E238).other W268 (Or.inr (slot_ne (Or.inl (hw _ (List.mem_of_getElem? (i := 30) rfl))) (Or.inl (hw _ (List.mem_of_getElem? (i := 34) rfl))) (by decide) (t := (.array .int)) (t' := (.array .int)) (by decide) (by decide)))).ext E288).other W320 (Or.inr (slot_ne (Or.inl (hw _ (List.mem_of_getElem? (i := 30) rfl))) (Or.inl (hw _ (List.mem_of_getElem? (i := 36) rfl))) (by decide) (t := (.array .int)) (t' := (.array .int)) (by decide) (by decide)))).other W345 (Or.inl ne3)) (((((F219.ext E238).other W268 (Or.inr (slot_ne (Or.inl (hw _ (List.mem_of_getElem? (i := 32) rfl))) (Or.inl (hw _ (List.mem_of_getElem? (i := 34) rfl))) (by decide) (t := (.array .int)) (t' := (.array .int)) (by decide) (by decide)))).ext E288).other W320 (Or.inr (slot_ne (Or.inl (hw _ (List.mem_of_getElem? (i := 32) rfl))) (Or.inl (hw _ (List.mem_of_getElem? (i := 36) rfl))) (by decide) (t := (.array .int)) (t' := (.array .int)) (by decide) (by decide)))).other W345 (Or.inl ne3)) (((F268.ext E288).other W320 (Or.inr (slot_ne (Or.inl (hw _ (List.mem_of_getElem? (i := 34) rfl))) (Or.inl (hw _ (List.mem_of_getElem? (i := 36) rfl))) (by decide) (t := (.array .int)) (t' := (.array .int)) (by decide) (by decide)))).other W345 (Or.inl ne3)) (F320.other W345 (Or.inl ne3)) (((((((((((((((((pF_pieces.ext E2).other W19 (Or.inr (slot_ne (Or.inl (hw _ (List.mem_of_getElem? (i := 49) rfl))) (Or.inr (hw _ (List.mem_of_getElem? (i := 22) rfl))) (by decide) (t := .int) (t' := (.array .long)) (by decide) (by decide)))).ext E33).other W53 (Or.inr (slot_ne (Or.inl (hw _ (List.mem_of_getElem? (i := 49) rfl))) (Or.inl (hw _ (List.mem_of_getElem? (i := 24) rfl))) (by decide) (t := .int) (t' := (.array .int)) (by decide) (by decide)))).ext E68).other W90 (Or.inr (slot_ne (Or.inl (hw _ (List.mem_of_getElem? (i := 49) rfl))) (Or.inl (hw _ (List.mem_of_getElem? (i := 26) rfl))) (by decide) (t := .int) (t' := (.array .int)) (by decide) (by decide)))).ext E106).other W130 (Or.inr (slot_ne (Or.inl (hw _ (List.mem_of_getElem? (i := 49) rfl))) (Or.inl (hw _ (List.mem_of_getElem? (i := 28) rfl))) (by decide) (t := .int) (t' := (.array .long)) (by decide) (by decide)))).ext E147).other W173 (Or.inr (slot_ne (Or.inl (hw _ (List.mem_of_getElem? (i := 49) rfl))) (Or.inl (hw _ (List.mem_of_getElem? (i := 30) rfl))) (by decide) (t := .int) (t' := (.array .int)) (by decide) (by decide)))).ext E191).other W219 (Or.inr (slot_ne (Or.inl (hw _ (List.mem_of_getElem? (i := 49) rfl))) (Or.inl (hw _ (List.mem_of_getElem? (i := 32) rfl))) (by decide) (t := .int) (t' := (.array .int)) (by decide) (by decide)))).ext E238).other W268 (Or.inr (slot_ne (Or.inl (hw _ (List.mem_of_getElem? (i := 49) rfl))) (Or.inl (hw _ (List.mem_of_getElem? (i := 34) rfl))) (by decide) (t := .int) (t' := (.array .int)) (by decide) (by decide)))).ext E288).other W320 (Or.inr (slot_ne (Or.inl (hw _ (List.mem_of_getElem? (i := 49) rfl))) (Or.inl (hw _ (List.mem_of_getElem? (i := 36) rfl))) (by decide) (t := .int) (t' := (.array .int)) (by decide) (by decide)))).other W345 (Or.inl ne3)) f367 V345 ((((((((((((((f51.other W53 (Ne.symm ne34)).ext E68).other W90 (Ne.symm ne34)).ext E106).other W130 (Ne.symm ne34)).ext E147).other W173 (Ne.symm ne34)).ext E191).other W219 (Ne.symm ne34)).ext E238).other W268 (Ne.symm ne34)).ext E288).other W320 (Ne.symm ne34)).other W345 (Ne.symm ne36)) ((((((((((((f88.other W90 (Ne.symm ne69)).ext E106).other W130 (Ne.symm ne69)).ext E147).other W173 (Ne.symm ne69)).ext E191).other W219 (Ne.symm ne69)).ext E238).other W268 (Ne.symm ne69)).ext E288).other W320 (Ne.symm ne69)).other W345 (Ne.symm ne71)) ((((((((((f128.other W130 (Ne.symm ne107)).ext E147).other W173 (Ne.symm ne107)).ext E191).other W219 (Ne.symm ne107)).ext E238).other W268 (Ne.symm ne107)).ext E288).other W320 (Ne.symm ne107)).other W345 (Ne.symm ne109)) ((((((((f171.other W173 (Ne.symm ne148)).ext E191).other W219 (Ne.symm ne148)).ext E238).other W268 (Ne.symm ne148)).ext E288).other W320 (Ne.symm ne148)).other W345 (Ne.symm ne150)) ((((((f217.other W219 (Ne.symm ne192)).ext E238).other W268 (Ne.symm ne192)).ext E288).other W320 (Ne.symm ne192)).other W345 (Ne.symm ne194)) ((((f266.other W268 (Ne.symm ne239)).ext E288).other W320 (Ne.symm ne239)).other W345 (Ne.symm ne241)) ((f318.other W320 (Ne.symm ne289)).other W345 (Ne.symm ne291)), (o_all9 (P := fun y => y ∈ [a1] ∨ h0.size ≤ y) (Or.inl (List.mem_of_getElem? (i := 0) rfl)) (Or.inr sz2) (Or.inr sz33) (Or.inr sz68) (Or.inr sz106) (Or.inr sz147) (Or.inr sz191) (Or.inr sz238) (Or.inr sz288)), (ninS (Ne.symm pne) (ninS ne4 (ninS ne35 (ninS ne70 (ninS ne108 (ninS ne149 (ninS ne193 (ninS ne240 (ninS ne290 nin0)))))))))⟩
  refine o_callP X369 hx hZ hown (hw _ (List.mem_of_getElem? (i := 44) rfl)) (hw _ (List.mem_of_getElem? (i := 45) rfl)) (hw _ (List.mem_of_getElem? (i := 46) rfl)) (hw _ (List.mem_of_getElem? (i := 1) rfl)) (hw _ (List.mem_of_getElem? (i := 2) rfl)) (hw _ (List.mem_of_getElem? (i := 47) rfl)) (by decide) e369 LL.E (argsL := [(.int (0 : Int32)), (.int (0 : Int32)), (.int (1 : Int32)), (.int (0 : Int32))]) (rest := []) (c_addN l Z a0 hw a1 AA o_D0 0 0 1 h345 n0 zz345 LL o_inv0 (by decide) (by decide) (by decide) (by decide)) 0 (by decide) (by decide) (by decide) (by decide) (by rw [hml]; rfl) (lenOf o_pd6 rfl) rfl (Nat.le_of_eq rfl) (hb hby d_prog_12_method_2_code_102) (n := 105) rfl ?_
  intro v371 T371 L371 X371 q371
  obtain ⟨A_371, rfl, Nq371, K371, sb371, L_371⟩ := q371
  have N372 := Fr.app N370 Nq371
  have ni371_q : q ∉ a1 :: A_371.all := o_ninG niq (f343.other W345 ne4).lt sb371
  have f373 := (f343.other W345 ne4).keep K371 niq
  have zz371 : n0 ≤ T371.heap.size := Nat.le_trans zz345 K371.1
  have K374 : Keep h0 T371.heap [a1] := K366.trans K371 sub0
  have su371 : ∀ y ∈ a1 :: A_371.all, y ∈ [a1] ∨ h0.size ≤ y := o_subT sub0 sb371 K366.1
  have L375 : o_L Z T371.heap n0 a1 A_371 o_D1 := o_eD1 ▸ L_371
  show Goes p e below s _ _ _ (T371.setTop (mkF m 105 #[.val (.ref a1), .val (.ref q), .val (.int (2 : Int32)), .val (.int (0 : Int32))] [(.int (n32 o_D0.P.length))]))
  refine o_pop X371 hx (hb hby d_prog_12_method_2_code_105) rfl (n := 106) rfl ?_
  refine o_aloadN X371 hx (hb hby d_prog_12_method_2_code_106) (v := (.ref a1)) rfl rfl (n := 107) rfl ?_
  refine o_getfield X371 hx hZ hown (host := "") (Or.inl (hw _ (List.mem_of_getElem? (i := 33) rfl))) Via.refl (rfl : T371.heap = T371.heap) L375.f_nexts (hb hby d_prog_12_method_2_code_107) (n := 110) rfl ?_
  intro T376 X376 e376
  refine o_iloadN X376 hx (hb hby d_prog_12_method_2_code_110) (v := (0 : Int32)) rfl (n := 111) rfl ?_
  refine o_iconst X376 hx (hb hby d_prog_12_method_2_code_111) (v := (-1 : Int32)) rfl (n := 112) rfl ?_
  refine o_iastore X376 hx hZ e376 L375.v_nexts (0) (by decide) (by decide) (by decide) (w := (.int (-1 : Int32))) rfl (vs' := (o_D2.xs.map Value.int)) rfl (hb hby d_prog_12_method_2_code_112) (n := 113) rfl ?_
  intro T377 h377 X377 e377 W377 V377
  have L380 : o_L Z h377 n0 a1 A_371 o_D2 := L375.set_nexts (xs := o_D2.xs) W377 V377
  have zz377 : n0 ≤ h377.size := Nat.le_trans zz371 (Nat.le_of_eq W377.size.symm)
  have N381 := Fr.snoc X377 N372 (L380.ge _ (List.mem_of_getElem? (i := 7) rfl))
  have K382 : Keep h0 h377 [a1] := K374.wr W377 (su371 _ (List.mem_of_getElem? (i := 7) rfl))
  refine o_iinc X377 hx (hb hby d_prog_12_method_2_code_113) (w := (1 : Int32)) rfl (by decide) (Ls' := #[.val (.ref a1), .val (.ref q), .val (.int (2 : Int32)), .val (.int (1 : Int32))]) rfl (n := 116) rfl ?_
  refine o_goto X377 hx (hb hby d_prog_12_method_2_code_116) (by decide) (n := 65) (by decide) ?_
  refine o_iloadN X377 hx (hb hby d_prog_12_method_2_code_65) (v := (1 : Int32)) rfl (n := 66) rfl ?_
  refine o_iloadN X377 hx (hb hby d_prog_12_method_2_code_66) (v := (2 : Int32)) rfl (n := 67) rfl ?_
  refine o_icmpN X377 hx (hb hby d_prog_12_method_2_code_67) (XT.ii_ge_f (by decide)) (n := 70) rfl ?_
  refine o_aloadN X377 hx (hb hby d_prog_12_method_2_code_70) (v := (.ref a1)) rfl rfl (n := 71) rfl ?_
  refine o_getfield X377 hx hZ hown (host := "") (Or.inl (hw _ (List.mem_of_getElem? (i := 21) rfl))) Via.refl e377 L380.f_limits (hb hby d_prog_12_method_2_code_71) (n := 74) rfl ?_
  intro T383 X383 e383
  refine o_iloadN X383 hx (hb hby d_prog_12_method_2_code_74) (v := (1 : Int32)) rfl (n := 75) rfl ?_
  refine o_ldc2_w X383 hx hZ (v := (-1 : Int64)) hown (hw _ (List.mem_of_getElem? (i := 37) rfl)) (hb hby d_prog_12_method_2_code_75) (n := 78) rfl ?_
  refine o_bipush X383 hx (hb hby d_prog_12_method_2_code_78) (v := (64 : Int32)) rfl (n := 80) rfl ?_
  refine o_aloadN X383 hx (hb hby d_prog_12_method_2_code_80) (v := (.ref q)) rfl rfl (n := 81) rfl ?_
  refine o_iloadN X383 hx (hb hby d_prog_12_method_2_code_81) (v := (1 : Int32)) rfl (n := 82) rfl ?_
  have f384 := (f373.other W377 (o_nem ni371_q (List.mem_of_getElem? (i := 7) rfl)))
  refine o_iaload X383 hx hZ e383 f384 (1) (by decide) (by decide) (v := (.int (1 : Int32))) rfl (hb hby d_prog_12_method_2_code_82) (n := 83) rfl ?_
  refine o_isub X383 hx (hb hby d_prog_12_method_2_code_83) (v := (63 : Int32)) (by decide) (n := 84) rfl ?_
  refine o_lushr X383 hx (hb hby d_prog_12_method_2_code_84) (v := (1 : Int64)) (by decide) (n := 85) rfl ?_
  refine o_lastore X383 hx hZ e383 L380.v_limits (1) (by decide) (by decide) (Nat.le_of_ble_eq_true rfl) (w := (.long (o_lim 1))) (congrArg Value.long o_lim1.symm) (vs' := [.long (o_lim 1), .long (o_lim 1)]) rfl (hb hby d_prog_12_method_2_code_85) (n := 86) rfl ?_
  intro T385 h385 X385 e385 W385 V385
  have L388 : o_L Z h385 n0 a1 A_371 o_D3 := L380.set_limits (b0 := 1) (b1 := 1) W385 V385
  have zz385 : n0 ≤ h385.size := Nat.le_trans zz377 (Nat.le_of_eq W385.size.symm)
  have N389 := Fr.snoc X385 N381 (L388.ge _ (List.mem_of_getElem? (i := 1) rfl))
  have K390 : Keep h0 h385 [a1] := K382.wr W385 (su371 _ (List.mem_of_getElem? (i := 1) rfl))
  refine o_aloadN X385 hx (hb hby d_prog_12_method_2_code_86) (v := (.ref a1)) rfl rfl (n := 87) rfl ?_
  refine o_iloadN X385 hx (hb hby d_prog_12_method_2_code_87) (v := (1 : Int32)) rfl (n := 88) rfl ?_
  refine o_iconst X385 hx (hb hby d_prog_12_method_2_code_88) (v := (0 : Int32)) rfl (n := 89) rfl ?_
  refine o_aloadN X385 hx (hb hby d_prog_12_method_2_code_89) (v := (.ref q)) rfl rfl (n := 90) rfl ?_
  refine o_iloadN X385 hx (hb hby d_prog_12_method_2_code_90) (v := (1 : Int32)) rfl (n := 91) rfl ?_
  have f391 := (f384.other W385 (o_nem ni371_q (List.mem_of_getElem? (i := 1) rfl)))
  refine o_iaload X385 hx hZ e385 f391 (1) (by decide) (by decide) (v := (.int (1 : Int32))) rfl (hb hby d_prog_12_method_2_code_91) (n := 92) rfl ?_
  refine o_iconst X385 hx (hb hby d_prog_12_method_2_code_92) (v := (0 : Int32)) rfl (n := 93) rfl ?_
  refine o_aloadN X385 hx (hb hby d_prog_12_method_2_code_93) (v := (.ref a1)) rfl rfl (n := 94) rfl ?_
  refine o_getfield X385 hx hZ hown (host := "") (Or.inl (hw _ (List.mem_of_getElem? (i := 38) rfl))) Via.refl e385 L388.f_length (hb hby d_prog_12_method_2_code_94) (n := 97) rfl ?_
  intro T392 X392 e392
  refine o_iconst X392 hx (hb hby d_prog_12_method_2_code_97) (v := (1 : Int32)) rfl (n := 98) rfl ?_
  refine o_isub X392 hx (hb hby d_prog_12_method_2_code_98) (v := (0 : Int32)) (by decide) (n := 99) rfl ?_
  refine o_callS X392 hx hZ hown (hw _ (List.mem_of_getElem? (i := 40) rfl)) (hw _ (List.mem_of_getElem? (i := 41) rfl)) (hw _ (List.mem_of_getElem? (i := 42) rfl)) (hw _ (List.mem_of_getElem? (i := 43) rfl)) (by decide) e392 (argsL := [(.int (0 : Int32)), (.int (0 : Int32))]) (rest := [(.int (1 : Int32)), (.int (0 : Int32)), (.int (1 : Int32)), (.ref a1)]) ((show o_mx (0 : Int32) (0 : Int32) = 0 by decide) ▸ c_max l Z a0 hw (0 : Int32) (0 : Int32) h385) 4 (by decide) (by decide) (by decide) (by decide) (by rw [hml]; rfl) (lenOf o_pd3 rfl) rfl (Nat.le_of_eq rfl) (hb hby d_prog_12_method_2_code_99) (n := 102) rfl ?_
  intro v393 T393 L393 X393 q393
  obtain ⟨rfl, e393, rfl⟩ := q393
  have N394 := Fr.app N389 (Fr.nil n0)
  show Goes p e below s _ _ _ (T393.setTop (mkF m 102 #[.val (.ref a1), .val (.ref q), .val (.int (2 : Int32)), .val (.int (1 : Int32))] [(.int (0 : Int32)), (.int (1 : Int32)), (.int (0 : Int32)), (.int (1 : Int32)), (.ref a1)]))
  refine o_callP X393 hx hZ hown (hw _ (List.mem_of_getElem? (i := 44) rfl)) (hw _ (List.mem_of_getElem? (i := 45) rfl)) (hw _ (List.mem_of_getElem? (i := 46) rfl)) (hw _ (List.mem_of_getElem? (i := 1) rfl)) (hw _ (List.mem_of_getElem? (i := 2) rfl)) (hw _ (List.mem_of_getElem? (i := 47) rfl)) (by decide) e393 L388.E (argsL := [(.int (1 : Int32)), (.int (0 : Int32)), (.int (1 : Int32)), (.int (0 : Int32))]) (rest := []) (c_addN l Z a0 hw a1 A_371 o_D3 1 0 1 h385 n0 zz385 L388 o_inv3 (by decide) (by decide) (by decide) (by decide)) 0 (by decide) (by decide) (by decide) (by decide) (by rw [hml]; rfl) (lenOf o_pd6 rfl) rfl (Nat.le_of_eq rfl) (hb hby d_prog_12_method_2_code_102) (n := 105) rfl ?_
  intro v395 T395 L395 X395 q395
  obtain ⟨A_395, rfl, Nq395, K395, sb395, L_395⟩ := q395
  have N396 := Fr.app N394 Nq395
  have ni395_q : q ∉ a1 :: A_395.all := o_ninG ni371_q f391.lt sb395
  have f397 := f391.keep K395 ni371_q
  have zz395 : n0 ≤ T395.heap.size := Nat.le_trans zz385 K395.1
  have K398 : Keep h0 T395.heap [a1] := K390.trans K395 su371
  have su395 : ∀ y ∈ a1 :: A_395.all, y ∈ [a1] ∨ h0.size ≤ y := o_subT su371 sb395 K390.1
  have L399 : o_L Z T395.heap n0 a1 A_395 o_D4 := o_eD4 ▸ L_395
  show Goes p e below s _ _ _ (T395.setTop (mkF m 105 #[.val (.ref a1), .val (.ref q), .val (.int (2 : Int32)), .val (.int (1 : Int32))] [(.int (n32 o_D3.P.length))]))
  refine o_pop X395 hx (hb hby d_prog_12_method_2_code_105) rfl (n := 106) rfl ?_
  refine o_aloadN X395 hx (hb hby d_prog_12_method_2_code_106) (v := (.ref a1)) rfl rfl (n := 107) rfl ?_
  refine o_getfield X395 hx hZ hown (host := "") (Or.inl (hw _ (List.mem_of_getElem? (i := 33) rfl))) Via.refl (rfl : T395.heap = T395.heap) L399.f_nexts (hb hby d_prog_12_method_2_code_107) (n := 110) rfl ?_
  intro T400 X400 e400
  refine o_iloadN X400 hx (hb hby d_prog_12_method_2_code_110) (v := (1 : Int32)) rfl (n := 111) rfl ?_
  refine o_iconst X400 hx (hb hby d_prog_12_method_2_code_111) (v := (-1 : Int32)) rfl (n := 112) rfl ?_
  refine o_iastore X400 hx hZ e400 L399.v_nexts (1) (by decide) (by decide) (by decide) (w := (.int (-1 : Int32))) rfl (vs' := (o_C1.xs.map Value.int)) rfl (hb hby d_prog_12_method_2_code_112) (n := 113) rfl ?_
  intro T401 h401 X401 e401 W401 V401
  have L404 : o_L Z h401 n0 a1 A_395 o_C1 := L399.set_nexts (xs := o_C1.xs) W401 V401
  have zz401 : n0 ≤ h401.size := Nat.le_trans zz395 (Nat.le_of_eq W401.size.symm)
  have N405 := Fr.snoc X401 N396 (L404.ge _ (List.mem_of_getElem? (i := 7) rfl))
  have K406 : Keep h0 h401 [a1] := K398.wr W401 (su395 _ (List.mem_of_getElem? (i := 7) rfl))
  refine o_iinc X401 hx (hb hby d_prog_12_method_2_code_113) (w := (2 : Int32)) rfl (by decide) (Ls' := #[.val (.ref a1), .val (.ref q), .val (.int (2 : Int32)), .val (.int (2 : Int32))]) rfl (n := 116) rfl ?_
  refine o_goto X401 hx (hb hby d_prog_12_method_2_code_116) (by decide) (n := 65) (by decide) ?_
  refine o_iloadN X401 hx (hb hby d_prog_12_method_2_code_65) (v := (2 : Int32)) rfl (n := 66) rfl ?_
  refine o_iloadN X401 hx (hb hby d_prog_12_method_2_code_66) (v := (2 : Int32)) rfl (n := 67) rfl ?_
  refine o_icmpY X401 hx (hb hby d_prog_12_method_2_code_67) (XT.ii_ge_t (by decide)) (by decide) (n := 119) (by decide) ?_
  exact o_return X401 hx hret hlk (hb hby d_prog_12_method_2_code_119) (by decide) (by decide) e401 ⟨A_395, rfl, N405, K406, su395, L404⟩
theorem d_prog_12_method_1_code_0 : decode prog_12_method_1_code 0 = .ok (.aload_n 0, 1) := by decide +kernel
theorem d_prog_12_method_1_code_1 : decode prog_12_method_1_code 1 = .ok (.iload_n 1, 1) := by decide +kernel
theorem d_prog_12_method_1_code_2 : decode prog_12_method_1_code 2 = .ok (.invokestatic 1, 3) := by decide +kernel
theorem o_pd7 : parseMethodDescriptor "(I)[I" = some ⟨[.int], some (.array .int)⟩ := by decide +kernel
theorem d_prog_12_method_1_code_5 : decode prog_12_method_1_code 5 = .ok (.invokespecial 7, 3) := by decide +kernel
theorem o_pd8 : parseMethodDescriptor "([I)V" = some ⟨[(.array .int)], none⟩ := by decide +kernel
theorem d_prog_12_method_1_code_8 : decode prog_12_method_1_code 8 = .ok (.return_, 1) := by decide +kernel
theorem o_ef15 (m : MethodId) (a1 : Addr) : entryFrame m #[(.ref a1), (.int (2 : Int32))] 2 = mkF m 0 #[.val (.ref a1), .val (.int (2 : Int32))] [] := by first | (simp [entryFrame, mkF, argsToLocals, Value.category]; done) | rfl
set_option maxRecDepth 65536 in
set_option maxHeartbeats 40000000 in
theorem c_ini (l : Launch) (Z : State) (a0 : Array Value) (hw : ∀ d ∈ tables_1, d.before a0 Z = true) (a1 : Addr) (h0 : Heap) (n0 : Nat) (Z0 : n0 ≤ h0.size) (pg : n0 ≤ a1) (pE : Exa Z h0 a1 "com/example/marke/marke/analysis/MarkingLayout") (pF_limits : Fld Z h0 a1 "com/example/marke/marke/analysis/MarkingLayout" "limits" "[J" .null) (pF_places : Fld Z h0 a1 "com/example/marke/marke/analysis/MarkingLayout" "places" "[I" .null) (pF_lows : Fld Z h0 a1 "com/example/marke/marke/analysis/MarkingLayout" "lows" "[I" .null) (pF_masks : Fld Z h0 a1 "com/example/marke/marke/analysis/MarkingLayout" "masks" "[J" .null) (pF_words : Fld Z h0 a1 "com/example/marke/marke/analysis/MarkingLayout" "words" "[I" .null) (pF_shifts : Fld Z h0 a1 "com/example/marke/marke/analysis/MarkingLayout" "shifts" "[I" .null) (pF_nexts : Fld Z h0 a1 "com/example/marke/marke/analysis/MarkingLayout" "nexts" "[I" .null) (pF_tops : Fld Z h0 a1 "com/example/marke/marke/analysis/MarkingLayout" "tops" "[I" .null) (pF_pieces : Fld Z h0 a1 "com/example/marke/marke/analysis/MarkingLayout" "pieces" "I" (.int (0 : Int32))) (pF_length : Fld Z h0 a1 "com/example/marke/marke/analysis/MarkingLayout" "length" "I" (.int (0 : Int32))) :
    Does l Z (⟨"com/example/marke/marke/analysis/MarkingLayout", "<init>", "(I)V"⟩ : MethodName) prog_12_method_1_code 2 none [] ({ frames := 2, cells := 9, slots := 18, locals := 32 } : Room) #[(.ref a1), (.int (2 : Int32))] h0 (fun v h L => ∃ A' : o_A, v = none ∧ Fr n0 L ∧ Keep h0 h [a1] ∧ (∀ y ∈ a1 :: A'.all, y ∈ [a1] ∨ h0.size ≤ y) ∧ o_L Z h n0 a1 A' o_C1) := by
  refine Does.of (plainFor_of_name o_pn3) ?_
  intro p e s m below meth c T0 hx hby hml hown hnm hret hlk hZ X0 e0
  have hown : s.vm.findClass "com/example/marke/marke/analysis/MarkingLayout" = some m.cls := hown
  have hml : c.maxLocals = 2 := hml
  have hret : meth.sig.returnType = none := hret
  refine o_entry (o_ef15 m a1) ?_
  have N0 := Fr.nil n0
  refine o_aloadN X0 hx (hb hby d_prog_12_method_1_code_0) (v := (.ref a1)) rfl rfl (n := 1) rfl ?_
  refine o_iloadN X0 hx (hb hby d_prog_12_method_1_code_1) (v := (2 : Int32)) rfl (n := 2) rfl ?_
  refine o_callS X0 hx hZ hown (hw _ (List.mem_of_getElem? (i := 6) rfl)) (hw _ (List.mem_of_getElem? (i := 7) rfl)) (hw _ (List.mem_of_getElem? (i := 2) rfl)) (hw _ (List.mem_of_getElem? (i := 8) rfl)) (by decide) e0 (argsL := [(.int (2 : Int32))]) (rest := [(.ref a1)]) (c_one l Z a0 hw h0 n0 Z0) 1 (by decide) (by decide) (by decide) (by decide) (by rw [hml]; rfl) (lenOf o_pd7 rfl) rfl (Nat.le_of_eq rfl) (hb hby d_prog_12_method_1_code_2) (n := 5) rfl ?_
  intro v1 T1 L1 X1 q1
  obtain ⟨n1_1, k1_1, rfl, Nq1, K1, sq1_n1, o1_0⟩ := q1
  have N2 := Fr.app N0 Nq1
  have ne3 : a1 ≠ n1_1 := Nat.ne_of_lt (Nat.lt_of_lt_of_le pE.lt sq1_n1)
  have gg1_n1 : n0 ≤ n1_1 := Nat.le_trans Z0 sq1_n1
  have sz1_n1 : h0.size ≤ n1_1 := Nat.le_trans (Keep.refl h0 [a1]).1 sq1_n1
  have f4 := pE.keep K1
  have f5 := pF_limits.keep K1 nin0
  have f6 := pF_places.keep K1 nin0
  have f7 := pF_lows.keep K1 nin0
  have f8 := pF_masks.keep K1 nin0
  have f9 := pF_words.keep K1 nin0
  have f10 := pF_shifts.keep K1 nin0
  have f11 := pF_nexts.keep K1 nin0
  have f12 := pF_tops.keep K1 nin0
  have f13 := pF_pieces.keep K1 nin0
  have f14 := pF_length.keep K1 nin0
  have zz1 : n0 ≤ T1.heap.size := Nat.le_trans Z0 K1.1
  have K15 : Keep h0 T1.heap [a1] := (Keep.refl h0 [a1]).trans K1 all0
  show Goes p e below s _ _ _ (T1.setTop (mkF m 5 #[.val (.ref a1), .val (.int (2 : Int32))] [(.ref n1_1), (.ref a1)]))
  refine o_callN X1 hx hZ rfl hown (hw _ (List.mem_of_getElem? (i := 14) rfl)) (hw _ (List.mem_of_getElem? (i := 15) rfl)) (hw _ (List.mem_of_getElem? (i := 2) rfl)) (hw _ (List.mem_of_getElem? (i := 16) rfl)) (by decide) (rfl : T1.heap = T1.heap) (a := a1) (argsL := [(.ref n1_1)]) (rest := []) (c_ini2 l Z a0 hw a1 n1_1 k1_1 T1.heap n0 zz1 pg f4 f5 f6 f7 f8 f9 f10 f11 f12 f13 f14 o1_0 ne3) 0 (by decide) (by decide) (by decide) (by decide) (by rw [hml]; rfl) (lenOf o_pd8 rfl) rfl (Nat.le_of_eq rfl) (hb hby d_prog_12_method_1_code_5) (n := 8) rfl ?_
  intro v16 T16 L16 X16 q16
  obtain ⟨A_16, rfl, Nq16, K16, sb16, L_16⟩ := q16
  have N17 := Fr.app N2 Nq16
  have ni16_n1_1 : n1_1 ∉ a1 :: A_16.all := o_ninG (ninS (Ne.symm ne3) nin0) o1_0.lt sb16
  have f18 := o1_0.keep K16 (ninS (Ne.symm ne3) nin0)
  have zz16 : n0 ≤ T16.heap.size := Nat.le_trans zz1 K16.1
  have K19 : Keep h0 T16.heap [a1] := K15.trans K16 (allS (P := fun x => x ∈ [a1] ∨ h0.size ≤ x) (Or.inl (List.mem_of_getElem? (i := 0) rfl)) all0)
  have su16 : ∀ y ∈ a1 :: A_16.all, y ∈ [a1] ∨ h0.size ≤ y := o_subT (allS (P := fun x => x ∈ [a1] ∨ h0.size ≤ x) (Or.inl (List.mem_of_getElem? (i := 0) rfl)) all0) sb16 K15.1
  show Goes p e below s _ _ _ (T16.setTop (mkF m 8 #[.val (.ref a1), .val (.int (2 : Int32))] []))
  exact o_return X16 hx hret hlk (hb hby d_prog_12_method_1_code_8) (by decide) (by decide) (rfl : T16.heap = T16.heap) ⟨A_16, rfl, N17, K19, su16, L_16⟩
theorem d_prog_12_method_9_code_2 : decode prog_12_method_9_code 2 = .ok (.iload_n 2, 1) := by decide +kernel
theorem d_prog_12_method_9_code_3 : decode prog_12_method_9_code 3 = .ok (.aload_n 0, 1) := by decide +kernel
theorem d_prog_12_method_9_code_4 : decode prog_12_method_9_code 4 = .ok (.getfield 16, 3) := by decide +kernel
theorem d_prog_12_method_9_code_7 : decode prog_12_method_9_code 7 = .ok (.arraylength, 1) := by decide +kernel
theorem d_prog_12_method_9_code_8 : decode prog_12_method_9_code 8 = .ok (.if_icmp .ge 115, 3) := by decide +kernel
theorem d_prog_12_method_9_code_11 : decode prog_12_method_9_code 11 = .ok (.aload_n 1, 1) := by decide +kernel
theorem d_prog_12_method_9_code_12 : decode prog_12_method_9_code 12 = .ok (.iload_n 2, 1) := by decide +kernel
theorem d_prog_12_method_9_code_13 : decode prog_12_method_9_code 13 = .ok (.laload, 1) := by decide +kernel
theorem d_prog_12_method_9_code_14 : decode prog_12_method_9_code 14 = .ok (.lconst 1, 1) := by decide +kernel
theorem d_prog_12_method_9_code_15 : decode prog_12_method_9_code 15 = .ok (.ladd, 1) := by decide +kernel
theorem d_prog_12_method_9_code_16 : decode prog_12_method_9_code 16 = .ok (.lstore_n 3, 1) := by decide +kernel
theorem d_prog_12_method_9_code_17 : decode prog_12_method_9_code 17 = .ok (.lload_n 3, 1) := by decide +kernel
theorem d_prog_12_method_9_code_18 : decode prog_12_method_9_code 18 = .ok (.aload_n 0, 1) := by decide +kernel
theorem d_prog_12_method_9_code_19 : decode prog_12_method_9_code 19 = .ok (.getfield 16, 3) := by decide +kernel
theorem d_prog_12_method_9_code_22 : decode prog_12_method_9_code 22 = .ok (.iload_n 2, 1) := by decide +kernel
theorem d_prog_12_method_9_code_23 : decode prog_12_method_9_code 23 = .ok (.laload, 1) := by decide +kernel
theorem d_prog_12_method_9_code_24 : decode prog_12_method_9_code 24 = .ok (.invokestatic 74, 3) := by decide +kernel
theorem d_prog_12_method_9_code_27 : decode prog_12_method_9_code 27 = .ok (.ifCond .le 90, 3) := by decide +kernel
theorem d_prog_12_method_9_code_30 : decode prog_12_method_9_code 30 = .ok (.aload_n 0, 1) := by decide +kernel
theorem d_prog_12_method_9_code_31 : decode prog_12_method_9_code 31 = .ok (.getfield 16, 3) := by decide +kernel
theorem d_prog_12_method_9_code_34 : decode prog_12_method_9_code 34 = .ok (.iload_n 2, 1) := by decide +kernel
theorem d_prog_12_method_9_code_35 : decode prog_12_method_9_code 35 = .ok (.laload, 1) := by decide +kernel
theorem d_prog_12_method_9_code_36 : decode prog_12_method_9_code 36 = .ok (.invokestatic 80, 3) := by decide +kernel
theorem o_pd9 : parseMethodDescriptor "(J)I" = some ⟨[.long], some .int⟩ := by decide +kernel
theorem d_prog_12_method_9_code_39 : decode prog_12_method_9_code 39 = .ok (.istore 5, 2) := by decide +kernel
theorem d_prog_12_method_9_code_41 : decode prog_12_method_9_code 41 = .ok (.bipush 64, 2) := by decide +kernel
theorem d_prog_12_method_9_code_43 : decode prog_12_method_9_code 43 = .ok (.lload_n 3, 1) := by decide +kernel
theorem d_prog_12_method_9_code_44 : decode prog_12_method_9_code 44 = .ok (.invokestatic 84, 3) := by decide +kernel
theorem d_prog_12_method_9_code_47 : decode prog_12_method_9_code 47 = .ok (.isub, 1) := by decide +kernel
theorem d_prog_12_method_9_code_48 : decode prog_12_method_9_code 48 = .ok (.istore 6, 2) := by decide +kernel
theorem d_prog_12_method_9_code_50 : decode prog_12_method_9_code 50 = .ok (.iload 6, 2) := by decide +kernel
theorem d_prog_12_method_9_code_52 : decode prog_12_method_9_code 52 = .ok (.iconst 2, 1) := by decide +kernel
theorem d_prog_12_method_9_code_53 : decode prog_12_method_9_code 53 = .ok (.iload 5, 2) := by decide +kernel
theorem d_prog_12_method_9_code_55 : decode prog_12_method_9_code 55 = .ok (.imul, 1) := by decide +kernel
theorem d_prog_12_method_9_code_56 : decode prog_12_method_9_code 56 = .ok (.bipush 64, 2) := by decide +kernel
theorem d_prog_12_method_9_code_58 : decode prog_12_method_9_code 58 = .ok (.invokestatic 87, 3) := by decide +kernel
theorem d_prog_12_method_9_code_61 : decode prog_12_method_9_code 61 = .ok (.invokestatic 48, 3) := by decide +kernel
theorem d_prog_12_method_9_code_64 : decode prog_12_method_9_code 64 = .ok (.istore 7, 2) := by decide +kernel
theorem d_prog_12_method_9_code_66 : decode prog_12_method_9_code 66 = .ok (.aload_n 0, 1) := by decide +kernel
theorem d_prog_12_method_9_code_67 : decode prog_12_method_9_code 67 = .ok (.iload_n 2, 1) := by decide +kernel
theorem d_prog_12_method_9_code_68 : decode prog_12_method_9_code 68 = .ok (.iload 5, 2) := by decide +kernel
theorem d_prog_12_method_9_code_70 : decode prog_12_method_9_code 70 = .ok (.iload 7, 2) := by decide +kernel
theorem d_prog_12_method_9_code_72 : decode prog_12_method_9_code 72 = .ok (.iload 5, 2) := by decide +kernel
theorem d_prog_12_method_9_code_74 : decode prog_12_method_9_code 74 = .ok (.isub, 1) := by decide +kernel
theorem d_prog_12_method_9_code_75 : decode prog_12_method_9_code 75 = .ok (.iconst 0, 1) := by decide +kernel
theorem d_prog_12_method_9_code_76 : decode prog_12_method_9_code 76 = .ok (.invokevirtual 54, 3) := by decide +kernel
theorem d_prog_12_method_9_code_79 : decode prog_12_method_9_code 79 = .ok (.istore 8, 2) := by decide +kernel
theorem d_prog_12_method_9_code_81 : decode prog_12_method_9_code 81 = .ok (.aload_n 0, 1) := by decide +kernel
theorem d_prog_12_method_9_code_82 : decode prog_12_method_9_code 82 = .ok (.getfield 36, 3) := by decide +kernel
theorem d_prog_12_method_9_code_85 : decode prog_12_method_9_code 85 = .ok (.iload 8, 2) := by decide +kernel
theorem d_prog_12_method_9_code_87 : decode prog_12_method_9_code 87 = .ok (.aload_n 0, 1) := by decide +kernel
theorem d_prog_12_method_9_code_88 : decode prog_12_method_9_code 88 = .ok (.getfield 36, 3) := by decide +kernel
theorem d_prog_12_method_9_code_91 : decode prog_12_method_9_code 91 = .ok (.iload_n 2, 1) := by decide +kernel
theorem d_prog_12_method_9_code_92 : decode prog_12_method_9_code 92 = .ok (.iaload, 1) := by decide +kernel
theorem d_prog_12_method_9_code_93 : decode prog_12_method_9_code 93 = .ok (.iastore, 1) := by decide +kernel
theorem d_prog_12_method_9_code_94 : decode prog_12_method_9_code 94 = .ok (.aload_n 0, 1) := by decide +kernel
theorem d_prog_12_method_9_code_95 : decode prog_12_method_9_code 95 = .ok (.getfield 36, 3) := by decide +kernel
theorem d_prog_12_method_9_code_98 : decode prog_12_method_9_code 98 = .ok (.iload_n 2, 1) := by decide +kernel
theorem d_prog_12_method_9_code_99 : decode prog_12_method_9_code 99 = .ok (.iload 8, 2) := by decide +kernel
theorem d_prog_12_method_9_code_101 : decode prog_12_method_9_code 101 = .ok (.iastore, 1) := by decide +kernel
theorem d_prog_12_method_9_code_102 : decode prog_12_method_9_code 102 = .ok (.aload_n 0, 1) := by decide +kernel
theorem d_prog_12_method_9_code_103 : decode prog_12_method_9_code 103 = .ok (.getfield 16, 3) := by decide +kernel
theorem d_prog_12_method_9_code_106 : decode prog_12_method_9_code 106 = .ok (.iload_n 2, 1) := by decide +kernel
theorem d_prog_12_method_9_code_107 : decode prog_12_method_9_code 107 = .ok (.ldc2_w 42, 3) := by decide +kernel
theorem d_prog_12_method_9_code_110 : decode prog_12_method_9_code 110 = .ok (.bipush 64, 2) := by decide +kernel
theorem d_prog_12_method_9_code_112 : decode prog_12_method_9_code 112 = .ok (.iload 7, 2) := by decide +kernel
theorem d_prog_12_method_9_code_114 : decode prog_12_method_9_code 114 = .ok (.isub, 1) := by decide +kernel
theorem d_prog_12_method_9_code_115 : decode prog_12_method_9_code 115 = .ok (.lushr, 1) := by decide +kernel
theorem d_prog_12_method_9_code_116 : decode prog_12_method_9_code 116 = .ok (.lastore, 1) := by decide +kernel
theorem d_prog_12_method_9_code_117 : decode prog_12_method_9_code 117 = .ok (.iinc 2 1, 3) := by decide +kernel
theorem d_prog_12_method_9_code_120 : decode prog_12_method_9_code 120 = .ok (.goto (-118), 3) := by decide +kernel
theorem d_prog_12_method_9_code_123 : decode prog_12_method_9_code 123 = .ok (.return_, 1) := by decide +kernel
theorem d_prog_12_method_9_code_0 : decode prog_12_method_9_code 0 = .ok (.iconst 0, 1) := by decide +kernel
theorem d_prog_12_method_9_code_1 : decode prog_12_method_9_code 1 = .ok (.istore_n 2, 1) := by decide +kernel
theorem o_ef16 (m : MethodId) (a1 : Addr) (q : Addr) : entryFrame m #[(.ref a1), (.ref q)] 9 = mkF m 0 #[.val (.ref a1), .val (.ref q), .unset, .unset, .unset, .unset, .unset, .unset, .unset] [] := by first | (simp [entryFrame, mkF, argsToLocals, Value.category]; done) | rfl
set_option maxRecDepth 65536 in
set_option maxHeartbeats 40000000 in
theorem c_widen (l : Launch) (Z : State) (a0 : Array Value) (hw : ∀ d ∈ tables_1, d.before a0 Z = true) (a1 : Addr) (A : o_A) (C : o_C) (q : Addr) (k1 : ClassId) (m0 m1 : Int64) (h0 : Heap) (n0 : Nat) (Z0 : n0 ≤ h0.size) (pL : o_L Z h0 n0 a1 A C) (pV : Arv Z h0 q k1 .long 2 [.long m0, .long m1] (.long 0)) (nin : q ∉ a1 :: A.all) (O : o_Ok C) (hn : C.P.length ≤ 4) :
    Does l Z (⟨"com/example/marke/marke/analysis/MarkingLayout", "widen", "([J)V"⟩ : MethodName) prog_12_method_9_code 9 none [] ({ frames := 3, cells := 14, slots := 112, locals := 50 } : Room) #[(.ref a1), (.ref q)] h0 (fun v h L => ∃ A' : o_A, v = none ∧ Fr n0 L ∧ Keep h0 h (a1 :: A.all) ∧ (∀ y ∈ a1 :: A'.all, y ∈ a1 :: A.all ∨ h0.size ≤ y) ∧ o_L Z h n0 a1 A' (o_widen C m0 m1)) := by
  refine Does.of (plainFor_of_name o_pn3) ?_
  intro p e s m below meth c T0 hx hby hml hown hnm hret hlk hZ X0 e0
  have hown : s.vm.findClass "com/example/marke/marke/analysis/MarkingLayout" = some m.cls := hown
  have hml : c.maxLocals = 9 := hml
  have hret : meth.sig.returnType = none := hret
  refine o_entry (o_ef16 m a1 q) ?_
  have N0 := Fr.nil n0
  have sub0 : ∀ y ∈ a1 :: A.all, y ∈ a1 :: A.all ∨ h0.size ≤ y := fun y hy => Or.inl hy
  have k2 : ∀ (T_ : State) (h_ : Heap) (Lc : List Loc) (B : o_A) (D : o_C) (y5 : Slot) (y6 : Slot) (y7 : Slot) (y8 : Slot), Stand p l e (({ frames := 3, cells := 14, slots := 112, locals := 50 } : Room)) s m #[(.ref a1), (.ref q)] below meth c T_ Lc 7 56 → T_.heap = h_ → Fr n0 Lc → n0 ≤ h_.size → Keep h0 h_ [a1, A.l, A.p, A.lo, A.m, A.w, A.s, A.x, A.t] → (o_sl y5) → (o_sl y6) → (o_sl y7) → (o_sl y8) → (D = o_st 0 C m0) → (∀ y ∈ a1 :: B.all, y ∈ a1 :: A.all ∨ h0.size ≤ y) → (o_L Z h_ n0 a1 B D) → (Arv Z h_ q k1 .long 2 [.long m0, .long m1] (.long 0)) → (q ∉ a1 :: B.all) → (o_Ok D) → (D.P.length ≤ 5) → Goes p e below s (fun v h L => ∃ A' : o_A, v = none ∧ Fr n0 L ∧ Keep h0 h (a1 :: A.all) ∧ (∀ y ∈ a1 :: A'.all, y ∈ a1 :: A.all ∨ h0.size ≤ y) ∧ o_L Z h n0 a1 A' (o_widen C m0 m1)) (({ frames := 3, cells := 14, slots := 112, locals := 50 } : Room)).cells (({ frames := 3, cells := 14, slots := 112, locals := 50 } : Room)).slots (T_.setTop (mkF m 2 #[.val (.ref a1), .val (.ref q), .val (.int (1 : Int32)), .val (.long (m0 + (1 : Int64))), .second, y5, y6, y7, y8] [])) := by
    intro T_ h_ Lc B D y5 y6 y7 y8 X_ e_ N_ zz_ K_ h5 h6 h7 h8 hD sub_ L_ pV_ nin_ O1 hn1
    refine o_iloadN X_ hx (hb hby d_prog_12_method_9_code_2) (v := (1 : Int32)) rfl (n := 3) rfl ?_
    refine o_aloadN X_ hx (hb hby d_prog_12_method_9_code_3) (v := (.ref a1)) rfl rfl (n := 4) rfl ?_
    refine o_getfield X_ hx hZ hown (host := "") (Or.inl (hw _ (List.mem_of_getElem? (i := 21) rfl))) Via.refl e_ L_.f_limits (hb hby d_prog_12_method_9_code_4) (n := 7) rfl ?_
    intro T1 X1 e1
    refine o_arraylength X1 hx hZ e1 L_.v_limits (hb hby d_prog_12_method_9_code_7) (n := 8) rfl ?_
    refine o_icmpN X1 hx (hb hby d_prog_12_method_9_code_8) (XT.ii_ge_f (by decide)) (n := 11) rfl ?_
    refine o_aloadN X1 hx (hb hby d_prog_12_method_9_code_11) (v := (.ref q)) rfl rfl (n := 12) rfl ?_
    refine o_iloadN X1 hx (hb hby d_prog_12_method_9_code_12) (v := (1 : Int32)) rfl (n := 13) rfl ?_
    refine o_laload X1 hx hZ e1 pV_ (1) (by decide) (by decide) (v := (.long m1)) rfl (hb hby d_prog_12_method_9_code_13) (n := 14) rfl ?_
    refine o_lconst X1 hx (hb hby d_prog_12_method_9_code_14) (v := (1 : Int64)) rfl (n := 15) rfl ?_
    refine o_ladd X1 hx (hb hby d_prog_12_method_9_code_15) (v := (m1 + (1 : Int64))) rfl (n := 16) rfl ?_
    refine o_lstoreN X1 hx (hb hby d_prog_12_method_9_code_16) (Ls' := #[.val (.ref a1), .val (.ref q), .val (.int (1 : Int32)), .val (.long (m1 + (1 : Int64))), .second, y5, y6, y7, y8]) rfl (n := 17) rfl ?_
    refine o_lloadN X1 hx (hb hby d_prog_12_method_9_code_17) (v := (m1 + (1 : Int64))) rfl (n := 18) rfl ?_
    refine o_aloadN X1 hx (hb hby d_prog_12_method_9_code_18) (v := (.ref a1)) rfl rfl (n := 19) rfl ?_
    refine o_getfield X1 hx hZ hown (host := "") (Or.inl (hw _ (List.mem_of_getElem? (i := 21) rfl))) Via.refl e1 L_.f_limits (hb hby d_prog_12_method_9_code_19) (n := 22) rfl ?_
    intro T2 X2 e2
    refine o_iloadN X2 hx (hb hby d_prog_12_method_9_code_22) (v := (1 : Int32)) rfl (n := 23) rfl ?_
    refine o_laload X2 hx hZ e2 L_.v_limits (1) (by decide) (by decide) (v := (.long (o_lim D.b1))) rfl (hb hby d_prog_12_method_9_code_23) (n := 24) rfl ?_
    refine o_callS X2 hx hZ hown (hw _ (List.mem_of_getElem? (i := 55) rfl)) (hw _ (List.mem_of_getElem? (i := 56) rfl)) (hw _ (List.mem_of_getElem? (i := 57) rfl)) (hw _ (List.mem_of_getElem? (i := 58) rfl)) (by decide) e2 (argsL := [(.long (m1 + (1 : Int64))), (.long (o_lim D.b1))]) (rest := []) (c_cmpU l Z a0 hw (m1 + (1 : Int64)) (o_lim D.b1) h_) 0 (by decide) (by decide) (by decide) (by decide) (by rw [hml]; rfl) (lenOf o_pd0 rfl) rfl (Nat.le_of_eq rfl) (hb hby d_prog_12_method_9_code_24) (n := 27) rfl ?_
    intro v3 T3 L3 X3 q3
    obtain ⟨rfl, e3, rfl⟩ := q3
    have N4 := Fr.app N_ (Fr.nil n0)
    show Goes p e below s _ _ _ (T3.setTop (mkF m 27 #[.val (.ref a1), .val (.ref q), .val (.int (1 : Int32)), .val (.long (m1 + (1 : Int64))), .second, y5, y6, y7, y8] [(.int (o_cmp ((m1 + (1 : Int64)) + (-9223372036854775808 : Int64)) ((o_lim D.b1) + (-9223372036854775808 : Int64))))]))
    by_cases hc27 : (0 : Int32) < (o_cmp ((m1 + (1 : Int64)) + (-9223372036854775808 : Int64)) ((o_lim D.b1) + (-9223372036854775808 : Int64)))
    · refine o_ifN X3 hx (hb hby d_prog_12_method_9_code_27) (XT.i0_le_f hc27) (n := 30) rfl ?_
      obtain ⟨hb1, hb2⟩ := O1.b1
      obtain ⟨hw1, hw2, hw3⟩ := o_wi_ok m1 hb1 hb2 hc27
      obtain ⟨hx1, hx2, hx3, hx4, hx5, hx6, hx7, hx8⟩ := o_wx (pl := 1) O1 hn1 hb1 hw1 hw2
      refine o_aloadN X3 hx (hb hby d_prog_12_method_9_code_30) (v := (.ref a1)) rfl rfl (n := 31) rfl ?_
      refine o_getfield X3 hx hZ hown (host := "") (Or.inl (hw _ (List.mem_of_getElem? (i := 21) rfl))) Via.refl e3 L_.f_limits (hb hby d_prog_12_method_9_code_31) (n := 34) rfl ?_
      intro T5 X5 e5
      refine o_iloadN X5 hx (hb hby d_prog_12_method_9_code_34) (v := (1 : Int32)) rfl (n := 35) rfl ?_
      refine o_laload X5 hx hZ e5 L_.v_limits (1) (by decide) (by decide) (v := (.long (o_lim D.b1))) rfl (hb hby d_prog_12_method_9_code_35) (n := 36) rfl ?_
      refine o_callS X5 hx hZ hown (hw _ (List.mem_of_getElem? (i := 63) rfl)) (hw _ (List.mem_of_getElem? (i := 64) rfl)) (hw _ (List.mem_of_getElem? (i := 57) rfl)) (hw _ (List.mem_of_getElem? (i := 65) rfl)) (by decide) e5 (argsL := [(.long (o_lim D.b1))]) (rest := []) ((o_bcl hb1 hb2) ▸ c_bitCount l Z a0 hw (o_lim D.b1) h_) 0 (by decide) (by decide) (by decide) (by decide) (by rw [hml]; rfl) (lenOf o_pd9 rfl) rfl (Nat.le_of_eq rfl) (hb hby d_prog_12_method_9_code_36) (n := 39) rfl ?_
      intro v6 T6 L6 X6 q6
      obtain ⟨rfl, e6, rfl⟩ := q6
      have N7 := Fr.app N4 (Fr.nil n0)
      show Goes p e below s _ _ _ (T6.setTop (mkF m 39 #[.val (.ref a1), .val (.ref q), .val (.int (1 : Int32)), .val (.long (m1 + (1 : Int64))), .second, y5, y6, y7, y8] [(.int (n32 D.b1))]))
      refine o_istore X6 hx (hb hby d_prog_12_method_9_code_39) (Ls' := #[.val (.ref a1), .val (.ref q), .val (.int (1 : Int32)), .val (.long (m1 + (1 : Int64))), .second, .val (.int (n32 D.b1)), y6, y7, y8]) (o_sl5 h5) (n := 41) rfl ?_
      refine o_bipush X6 hx (hb hby d_prog_12_method_9_code_41) (v := (64 : Int32)) rfl (n := 43) rfl ?_
      refine o_lloadN X6 hx (hb hby d_prog_12_method_9_code_43) (v := (m1 + (1 : Int64))) rfl (n := 44) rfl ?_
      refine o_callS X6 hx hZ hown (hw _ (List.mem_of_getElem? (i := 69) rfl)) (hw _ (List.mem_of_getElem? (i := 70) rfl)) (hw _ (List.mem_of_getElem? (i := 57) rfl)) (hw _ (List.mem_of_getElem? (i := 71) rfl)) (by decide) e6 (argsL := [(.long (m1 + (1 : Int64)))]) (rest := [(.int (64 : Int32))]) (c_nlz l Z a0 hw (m1 + (1 : Int64)) h_) 1 (by decide) (by decide) (by decide) (by decide) (by rw [hml]; rfl) (lenOf o_pd9 rfl) rfl (Nat.le_of_eq rfl) (hb hby d_prog_12_method_9_code_44) (n := 47) rfl ?_
      intro v8 T8 L8 X8 q8
      obtain ⟨rfl, e8, rfl⟩ := q8
      have N9 := Fr.app N7 (Fr.nil n0)
      show Goes p e below s _ _ _ (T8.setTop (mkF m 47 #[.val (.ref a1), .val (.ref q), .val (.int (1 : Int32)), .val (.long (m1 + (1 : Int64))), .second, .val (.int (n32 D.b1)), y6, y7, y8] [(.int (o_nlz (m1 + (1 : Int64)))), (.int (64 : Int32))]))
      refine o_isub X8 hx (hb hby d_prog_12_method_9_code_47) (v := (n32 (o_wl (m1 + 1)))) (o_wl_ok _).2.1 (n := 48) rfl ?_
      refine o_istore X8 hx (hb hby d_prog_12_method_9_code_48) (Ls' := #[.val (.ref a1), .val (.ref q), .val (.int (1 : Int32)), .val (.long (m1 + (1 : Int64))), .second, .val (.int (n32 D.b1)), .val (.int (n32 (o_wl (m1 + 1)))), y7, y8]) (o_sl6 h6) (n := 50) rfl ?_
      refine o_iload X8 hx (hb hby d_prog_12_method_9_code_50) (v := (n32 (o_wl (m1 + 1)))) rfl (n := 52) rfl ?_
      refine o_iconst X8 hx (hb hby d_prog_12_method_9_code_52) (v := (2 : Int32)) rfl (n := 53) rfl ?_
      refine o_iload X8 hx (hb hby d_prog_12_method_9_code_53) (v := (n32 D.b1)) rfl (n := 55) rfl ?_
      refine o_imul X8 hx (hb hby d_prog_12_method_9_code_55) (v := (n32 (2 * D.b1))) (o_n2 _) (n := 56) rfl ?_
      refine o_bipush X8 hx (hb hby d_prog_12_method_9_code_56) (v := (64 : Int32)) rfl (n := 58) rfl ?_
      refine o_callS X8 hx hZ hown (hw _ (List.mem_of_getElem? (i := 76) rfl)) (hw _ (List.mem_of_getElem? (i := 77) rfl)) (hw _ (List.mem_of_getElem? (i := 42) rfl)) (hw _ (List.mem_of_getElem? (i := 78) rfl)) (by decide) e8 (argsL := [(.int (n32 (2 * D.b1))), (.int (64 : Int32))]) (rest := [(.int (n32 (o_wl (m1 + 1))))]) ((o_mn2 (a := 2 * D.b1) hx1) ▸ c_min l Z a0 hw (n32 (2 * D.b1)) (64 : Int32) h_) 1 (by decide) (by decide) (by decide) (by decide) (by rw [hml]; rfl) (lenOf o_pd3 rfl) rfl (Nat.le_of_eq rfl) (hb hby d_prog_12_method_9_code_58) (n := 61) rfl ?_
      intro v10 T10 L10 X10 q10
      obtain ⟨rfl, e10, rfl⟩ := q10
      have N11 := Fr.app N9 (Fr.nil n0)
      show Goes p e below s _ _ _ (T10.setTop (mkF m 61 #[.val (.ref a1), .val (.ref q), .val (.int (1 : Int32)), .val (.long (m1 + (1 : Int64))), .second, .val (.int (n32 D.b1)), .val (.int (n32 (o_wl (m1 + 1)))), y7, y8] [(.int (n32 (min (2 * D.b1) 64))), (.int (n32 (o_wl (m1 + 1))))]))
      refine o_callS X10 hx hZ hown (hw _ (List.mem_of_getElem? (i := 40) rfl)) (hw _ (List.mem_of_getElem? (i := 41) rfl)) (hw _ (List.mem_of_getElem? (i := 42) rfl)) (hw _ (List.mem_of_getElem? (i := 43) rfl)) (by decide) e10 (argsL := [(.int (n32 (o_wl (m1 + 1)))), (.int (n32 (min (2 * D.b1) 64)))]) (rest := []) ((o_mx2 (o_wl_ok _).1 (Nat.min_le_right _ _)) ▸ c_max l Z a0 hw (n32 (o_wl (m1 + 1))) (n32 (min (2 * D.b1) 64)) h_) 0 (by decide) (by decide) (by decide) (by decide) (by rw [hml]; rfl) (lenOf o_pd3 rfl) rfl (Nat.le_of_eq rfl) (hb hby d_prog_12_method_9_code_61) (n := 64) rfl ?_
      intro v12 T12 L12 X12 q12
      obtain ⟨rfl, e12, rfl⟩ := q12
      have N13 := Fr.app N11 (Fr.nil n0)
      show Goes p e below s _ _ _ (T12.setTop (mkF m 64 #[.val (.ref a1), .val (.ref q), .val (.int (1 : Int32)), .val (.long (m1 + (1 : Int64))), .second, .val (.int (n32 D.b1)), .val (.int (n32 (o_wl (m1 + 1)))), y7, y8] [(.int (n32 (o_wi (m1 + 1) D.b1)))]))
      refine o_istore X12 hx (hb hby d_prog_12_method_9_code_64) (Ls' := #[.val (.ref a1), .val (.ref q), .val (.int (1 : Int32)), .val (.long (m1 + (1 : Int64))), .second, .val (.int (n32 D.b1)), .val (.int (n32 (o_wl (m1 + 1)))), .val (.int (n32 (o_wi (m1 + 1) D.b1))), y8]) (o_sl7 h7) (n := 66) rfl ?_
      refine o_aloadN X12 hx (hb hby d_prog_12_method_9_code_66) (v := (.ref a1)) rfl rfl (n := 67) rfl ?_
      refine o_iloadN X12 hx (hb hby d_prog_12_method_9_code_67) (v := (1 : Int32)) rfl (n := 68) rfl ?_
      refine o_iload X12 hx (hb hby d_prog_12_method_9_code_68) (v := (n32 D.b1)) rfl (n := 70) rfl ?_
      refine o_iload X12 hx (hb hby d_prog_12_method_9_code_70) (v := (n32 (o_wi (m1 + 1) D.b1))) rfl (n := 72) rfl ?_
      refine o_iload X12 hx (hb hby d_prog_12_method_9_code_72) (v := (n32 D.b1)) rfl (n := 74) rfl ?_
      refine o_isub X12 hx (hb hby d_prog_12_method_9_code_74) (v := (n32 ((o_wi (m1 + 1) D.b1) - D.b1))) (o_nsub (Nat.le_of_lt hw1) hx2) (n := 75) rfl ?_
      refine o_iconst X12 hx (hb hby d_prog_12_method_9_code_75) (v := (0 : Int32)) rfl (n := 76) rfl ?_
      refine o_callP X12 hx hZ hown (hw _ (List.mem_of_getElem? (i := 44) rfl)) (hw _ (List.mem_of_getElem? (i := 45) rfl)) (hw _ (List.mem_of_getElem? (i := 46) rfl)) (hw _ (List.mem_of_getElem? (i := 1) rfl)) (hw _ (List.mem_of_getElem? (i := 2) rfl)) (hw _ (List.mem_of_getElem? (i := 47) rfl)) (by decide) e12 L_.E (argsL := [(.int (1 : Int32)), (.int (n32 D.b1)), (.int (n32 ((o_wi (m1 + 1) D.b1) - D.b1))), (.int (0 : Int32))]) (rest := []) (c_add l Z a0 hw a1 B D 1 D.b1 ((o_wi (m1 + 1) D.b1) - D.b1) h_ n0 zz_ L_ O1.inv hn1 hx3) 0 (by decide) (by decide) (by decide) (by decide) (by rw [hml]; rfl) (lenOf o_pd6 rfl) rfl (Nat.le_of_eq rfl) (hb hby d_prog_12_method_9_code_76) (n := 79) rfl ?_
      intro v14 T14 L14 X14 q14
      obtain ⟨A_14, rfl, Nq14, K14, sb14, L_14⟩ := q14
      have N15 := Fr.app N13 Nq14
      have ni14_q : q ∉ a1 :: A_14.all := o_ninG nin_ pV_.lt sb14
      have f16 := pV_.keep K14 nin_
      have zz14 : n0 ≤ T14.heap.size := Nat.le_trans zz_ K14.1
      have K17 : Keep h0 T14.heap [a1, A.l, A.p, A.lo, A.m, A.w, A.s, A.x, A.t] := K_.trans K14 sub_
      have su14 : ∀ y ∈ a1 :: A_14.all, y ∈ [a1, A.l, A.p, A.lo, A.m, A.w, A.s, A.x, A.t] ∨ h0.size ≤ y := o_subT sub_ sb14 K_.1
      show Goes p e below s _ _ _ (T14.setTop (mkF m 79 #[.val (.ref a1), .val (.ref q), .val (.int (1 : Int32)), .val (.long (m1 + (1 : Int64))), .second, .val (.int (n32 D.b1)), .val (.int (n32 (o_wl (m1 + 1)))), .val (.int (n32 (o_wi (m1 + 1) D.b1))), y8] [(.int (n32 D.P.length))]))
      refine o_istore X14 hx (hb hby d_prog_12_method_9_code_79) (Ls' := #[.val (.ref a1), .val (.ref q), .val (.int (1 : Int32)), .val (.long (m1 + (1 : Int64))), .second, .val (.int (n32 D.b1)), .val (.int (n32 (o_wl (m1 + 1)))), .val (.int (n32 (o_wi (m1 + 1) D.b1))), .val (.int (n32 D.P.length))]) (o_sl8 h8) (n := 81) rfl ?_
      refine o_aloadN X14 hx (hb hby d_prog_12_method_9_code_81) (v := (.ref a1)) rfl rfl (n := 82) rfl ?_
      refine o_getfield X14 hx hZ hown (host := "") (Or.inl (hw _ (List.mem_of_getElem? (i := 33) rfl))) Via.refl (rfl : T14.heap = T14.heap) L_14.f_nexts (hb hby d_prog_12_method_9_code_82) (n := 85) rfl ?_
      intro T18 X18 e18
      refine o_iload X18 hx (hb hby d_prog_12_method_9_code_85) (v := (n32 D.P.length)) rfl (n := 87) rfl ?_
      refine o_aloadN X18 hx (hb hby d_prog_12_method_9_code_87) (v := (.ref a1)) rfl rfl (n := 88) rfl ?_
      refine o_getfield X18 hx hZ hown (host := "") (Or.inl (hw _ (List.mem_of_getElem? (i := 33) rfl))) Via.refl e18 L_14.f_nexts (hb hby d_prog_12_method_9_code_88) (n := 91) rfl ?_
      intro T19 X19 e19
      refine o_iloadN X19 hx (hb hby d_prog_12_method_9_code_91) (v := (1 : Int32)) rfl (n := 92) rfl ?_
      refine o_iaload X19 hx hZ e19 L_14.v_nexts (1) (by decide) (hx4 _ (by decide)) (v := (.int ((o_add D 1 D.b1 ((o_wi (m1 + 1) D.b1) - D.b1)).xs.getD 1 0))) (o_xgd _ _) (hb hby d_prog_12_method_9_code_92) (n := 93) rfl ?_
      refine o_iastore X19 hx hZ e19 L_14.v_nexts (D.P.length) (o_nt hx5) hx6 hx7 (w := (.int ((o_add D 1 D.b1 ((o_wi (m1 + 1) D.b1) - D.b1)).xs.getD 1 0))) rfl (vs' := (((o_add D 1 D.b1 ((o_wi (m1 + 1) D.b1) - D.b1)).xs.set D.P.length ((o_add D 1 D.b1 ((o_wi (m1 + 1) D.b1) - D.b1)).xs.getD 1 0)).map Value.int)) (o_xset _ _ _) (hb hby d_prog_12_method_9_code_93) (n := 94) rfl ?_
      intro T20 h20 X20 e20 W20 V20
      have L23 : o_L Z h20 n0 a1 A_14 ⟨D.b0, D.b1, (o_add D 1 D.b1 ((o_wi (m1 + 1) D.b1) - D.b1)).P, ((o_add D 1 D.b1 ((o_wi (m1 + 1) D.b1) - D.b1)).xs.set D.P.length ((o_add D 1 D.b1 ((o_wi (m1 + 1) D.b1) - D.b1)).xs.getD 1 0)), (o_add D 1 D.b1 ((o_wi (m1 + 1) D.b1) - D.b1)).ts⟩ := L_14.set_nexts (xs := ((o_add D 1 D.b1 ((o_wi (m1 + 1) D.b1) - D.b1)).xs.set D.P.length ((o_add D 1 D.b1 ((o_wi (m1 + 1) D.b1) - D.b1)).xs.getD 1 0))) W20 V20
      have zz20 : n0 ≤ h20.size := Nat.le_trans zz14 (Nat.le_of_eq W20.size.symm)
      have N24 := Fr.snoc X20 N15 (L23.ge _ (List.mem_of_getElem? (i := 7) rfl))
      have K25 : Keep h0 h20 [a1, A.l, A.p, A.lo, A.m, A.w, A.s, A.x, A.t] := K17.wr W20 (su14 _ (List.mem_of_getElem? (i := 7) rfl))
      refine o_aloadN X20 hx (hb hby d_prog_12_method_9_code_94) (v := (.ref a1)) rfl rfl (n := 95) rfl ?_
      refine o_getfield X20 hx hZ hown (host := "") (Or.inl (hw _ (List.mem_of_getElem? (i := 33) rfl))) Via.refl e20 L23.f_nexts (hb hby d_prog_12_method_9_code_95) (n := 98) rfl ?_
      intro T26 X26 e26
      refine o_iloadN X26 hx (hb hby d_prog_12_method_9_code_98) (v := (1 : Int32)) rfl (n := 99) rfl ?_
      refine o_iload X26 hx (hb hby d_prog_12_method_9_code_99) (v := (n32 D.P.length)) rfl (n := 101) rfl ?_
      refine o_iastore X26 hx hZ e26 L23.v_nexts (1) (by decide) (hx4 _ (by decide)) (hx8 _ _ (by decide)) (w := (.int (n32 D.P.length))) rfl (vs' := ((((o_add D 1 D.b1 ((o_wi (m1 + 1) D.b1) - D.b1)).xs.set D.P.length ((o_add D 1 D.b1 ((o_wi (m1 + 1) D.b1) - D.b1)).xs.getD 1 0)).set 1 (n32 D.P.length)).map Value.int)) (o_xset _ _ _) (hb hby d_prog_12_method_9_code_101) (n := 102) rfl ?_
      intro T27 h27 X27 e27 W27 V27
      have L30 : o_L Z h27 n0 a1 A_14 ⟨D.b0, D.b1, (o_add D 1 D.b1 ((o_wi (m1 + 1) D.b1) - D.b1)).P, (((o_add D 1 D.b1 ((o_wi (m1 + 1) D.b1) - D.b1)).xs.set D.P.length ((o_add D 1 D.b1 ((o_wi (m1 + 1) D.b1) - D.b1)).xs.getD 1 0)).set 1 (n32 D.P.length)), (o_add D 1 D.b1 ((o_wi (m1 + 1) D.b1) - D.b1)).ts⟩ := L23.set_nexts (xs := (((o_add D 1 D.b1 ((o_wi (m1 + 1) D.b1) - D.b1)).xs.set D.P.length ((o_add D 1 D.b1 ((o_wi (m1 + 1) D.b1) - D.b1)).xs.getD 1 0)).set 1 (n32 D.P.length))) W27 V27
      have zz27 : n0 ≤ h27.size := Nat.le_trans zz20 (Nat.le_of_eq W27.size.symm)
      have N31 := Fr.snoc X27 N24 (L30.ge _ (List.mem_of_getElem? (i := 7) rfl))
      have K32 : Keep h0 h27 [a1, A.l, A.p, A.lo, A.m, A.w, A.s, A.x, A.t] := K25.wr W27 (su14 _ (List.mem_of_getElem? (i := 7) rfl))
      refine o_aloadN X27 hx (hb hby d_prog_12_method_9_code_102) (v := (.ref a1)) rfl rfl (n := 103) rfl ?_
      refine o_getfield X27 hx hZ hown (host := "") (Or.inl (hw _ (List.mem_of_getElem? (i := 21) rfl))) Via.refl e27 L30.f_limits (hb hby d_prog_12_method_9_code_103) (n := 106) rfl ?_
      intro T33 X33 e33
      refine o_iloadN X33 hx (hb hby d_prog_12_method_9_code_106) (v := (1 : Int32)) rfl (n := 107) rfl ?_
      refine o_ldc2_w X33 hx hZ (v := (-1 : Int64)) hown (hw _ (List.mem_of_getElem? (i := 37) rfl)) (hb hby d_prog_12_method_9_code_107) (n := 110) rfl ?_
      refine o_bipush X33 hx (hb hby d_prog_12_method_9_code_110) (v := (64 : Int32)) rfl (n := 112) rfl ?_
      refine o_iload X33 hx (hb hby d_prog_12_method_9_code_112) (v := (n32 (o_wi (m1 + 1) D.b1))) rfl (n := 114) rfl ?_
      refine o_isub X33 hx (hb hby d_prog_12_method_9_code_114) (v := ((64 : Int32) - (n32 (o_wi (m1 + 1) D.b1)))) rfl (n := 115) rfl ?_
      refine o_lushr X33 hx (hb hby d_prog_12_method_9_code_115) (v := (o_mk (n32 (o_wi (m1 + 1) D.b1)))) rfl (n := 116) rfl ?_
      refine o_lastore X33 hx hZ e33 L30.v_limits (1) (by decide) (by decide) (Nat.le_of_ble_eq_true rfl) (w := (.long (o_lim (o_wi (m1 + 1) D.b1)))) (congrArg Value.long (o_lim_mk (Nat.lt_of_le_of_lt (Nat.zero_le _) hw1))) (vs' := [.long (o_lim D.b0), .long (o_lim (o_wi (m1 + 1) D.b1))]) rfl (hb hby d_prog_12_method_9_code_116) (n := 117) rfl ?_
      intro T34 h34 X34 e34 W34 V34
      have L37 : o_L Z h34 n0 a1 A_14 (o_st 1 D m1) := Eq.mp (congrArg (o_L Z h34 n0 a1 A_14) (o_stT (p := 1) (C := D) (m := m1) hc27)) (L30.set_limits (b0 := D.b0) (b1 := (o_wi (m1 + 1) D.b1)) W34 V34)
      have zz34 : n0 ≤ h34.size := Nat.le_trans zz27 (Nat.le_of_eq W34.size.symm)
      have N38 := Fr.snoc X34 N31 (L37.ge _ (List.mem_of_getElem? (i := 1) rfl))
      have K39 : Keep h0 h34 [a1, A.l, A.p, A.lo, A.m, A.w, A.s, A.x, A.t] := K32.wr W34 (su14 _ (List.mem_of_getElem? (i := 1) rfl))
      refine o_iinc X34 hx (hb hby d_prog_12_method_9_code_117) (w := (2 : Int32)) rfl (by decide) (Ls' := #[.val (.ref a1), .val (.ref q), .val (.int (2 : Int32)), .val (.long (m1 + (1 : Int64))), .second, .val (.int (n32 D.b1)), .val (.int (n32 (o_wl (m1 + 1)))), .val (.int (n32 (o_wi (m1 + 1) D.b1))), .val (.int (n32 D.P.length))]) rfl (n := 120) rfl ?_
      refine o_goto X34 hx (hb hby d_prog_12_method_9_code_120) (by decide) (n := 2) (by decide) ?_
      refine o_iloadN X34 hx (hb hby d_prog_12_method_9_code_2) (v := (2 : Int32)) rfl (n := 3) rfl ?_
      refine o_aloadN X34 hx (hb hby d_prog_12_method_9_code_3) (v := (.ref a1)) rfl rfl (n := 4) rfl ?_
      refine o_getfield X34 hx hZ hown (host := "") (Or.inl (hw _ (List.mem_of_getElem? (i := 21) rfl))) Via.refl e34 L37.f_limits (hb hby d_prog_12_method_9_code_4) (n := 7) rfl ?_
      intro T40 X40 e40
      refine o_arraylength X40 hx hZ e40 L37.v_limits (hb hby d_prog_12_method_9_code_7) (n := 8) rfl ?_
      refine o_icmpY X40 hx (hb hby d_prog_12_method_9_code_8) (XT.ii_ge_t (by decide)) (by decide) (n := 123) (by decide) ?_
      have hLL : o_L Z h34 n0 a1 A_14 (o_widen C m0 m1) := by unfold o_widen; rw [← hD]; exact L37
      exact o_return X40 hx hret hlk (hb hby d_prog_12_method_9_code_123) (by decide) (by decide) e40 ⟨A_14, rfl, N38, K39, su14, hLL⟩
    · refine o_ifY X3 hx (hb hby d_prog_12_method_9_code_27) (XT.i0_le_t hc27) (by decide) (n := 117) (by decide) ?_
      have L41 : o_L Z h_ n0 a1 B (o_st 1 D m1) := Eq.mp (congrArg (o_L Z h_ n0 a1 B) (o_stF (p := 1) (C := D) (m := m1) hc27)) L_
      refine o_iinc X3 hx (hb hby d_prog_12_method_9_code_117) (w := (2 : Int32)) rfl (by decide) (Ls' := #[.val (.ref a1), .val (.ref q), .val (.int (2 : Int32)), .val (.long (m1 + (1 : Int64))), .second, y5, y6, y7, y8]) rfl (n := 120) rfl ?_
      refine o_goto X3 hx (hb hby d_prog_12_method_9_code_120) (by decide) (n := 2) (by decide) ?_
      refine o_iloadN X3 hx (hb hby d_prog_12_method_9_code_2) (v := (2 : Int32)) rfl (n := 3) rfl ?_
      refine o_aloadN X3 hx (hb hby d_prog_12_method_9_code_3) (v := (.ref a1)) rfl rfl (n := 4) rfl ?_
      refine o_getfield X3 hx hZ hown (host := "") (Or.inl (hw _ (List.mem_of_getElem? (i := 21) rfl))) Via.refl e3 L41.f_limits (hb hby d_prog_12_method_9_code_4) (n := 7) rfl ?_
      intro T42 X42 e42
      refine o_arraylength X42 hx hZ e42 L41.v_limits (hb hby d_prog_12_method_9_code_7) (n := 8) rfl ?_
      refine o_icmpY X42 hx (hb hby d_prog_12_method_9_code_8) (XT.ii_ge_t (by decide)) (by decide) (n := 123) (by decide) ?_
      have hLL : o_L Z h_ n0 a1 B (o_widen C m0 m1) := by unfold o_widen; rw [← hD]; exact L41
      exact o_return X42 hx hret hlk (hb hby d_prog_12_method_9_code_123) (by decide) (by decide) e42 ⟨B, rfl, N4, K_, sub_, hLL⟩
  refine o_iconst X0 hx (hb hby d_prog_12_method_9_code_0) (v := (0 : Int32)) rfl (n := 1) rfl ?_
  refine o_istoreN X0 hx (hb hby d_prog_12_method_9_code_1) (Ls' := #[.val (.ref a1), .val (.ref q), .val (.int (0 : Int32)), .unset, .unset, .unset, .unset, .unset, .unset]) rfl (n := 2) rfl ?_
  refine o_iloadN X0 hx (hb hby d_prog_12_method_9_code_2) (v := (0 : Int32)) rfl (n := 3) rfl ?_
  refine o_aloadN X0 hx (hb hby d_prog_12_method_9_code_3) (v := (.ref a1)) rfl rfl (n := 4) rfl ?_
  refine o_getfield X0 hx hZ hown (host := "") (Or.inl (hw _ (List.mem_of_getElem? (i := 21) rfl))) Via.refl e0 pL.f_limits (hb hby d_prog_12_method_9_code_4) (n := 7) rfl ?_
  intro T43 X43 e43
  refine o_arraylength X43 hx hZ e43 pL.v_limits (hb hby d_prog_12_method_9_code_7) (n := 8) rfl ?_
  refine o_icmpN X43 hx (hb hby d_prog_12_method_9_code_8) (XT.ii_ge_f (by decide)) (n := 11) rfl ?_
  refine o_aloadN X43 hx (hb hby d_prog_12_method_9_code_11) (v := (.ref q)) rfl rfl (n := 12) rfl ?_
  refine o_iloadN X43 hx (hb hby d_prog_12_method_9_code_12) (v := (0 : Int32)) rfl (n := 13) rfl ?_
  refine o_laload X43 hx hZ e43 pV (0) (by decide) (by decide) (v := (.long m0)) rfl (hb hby d_prog_12_method_9_code_13) (n := 14) rfl ?_
  refine o_lconst X43 hx (hb hby d_prog_12_method_9_code_14) (v := (1 : Int64)) rfl (n := 15) rfl ?_
  refine o_ladd X43 hx (hb hby d_prog_12_method_9_code_15) (v := (m0 + (1 : Int64))) rfl (n := 16) rfl ?_
  refine o_lstoreN X43 hx (hb hby d_prog_12_method_9_code_16) (Ls' := #[.val (.ref a1), .val (.ref q), .val (.int (0 : Int32)), .val (.long (m0 + (1 : Int64))), .second, .unset, .unset, .unset, .unset]) rfl (n := 17) rfl ?_
  refine o_lloadN X43 hx (hb hby d_prog_12_method_9_code_17) (v := (m0 + (1 : Int64))) rfl (n := 18) rfl ?_
  refine o_aloadN X43 hx (hb hby d_prog_12_method_9_code_18) (v := (.ref a1)) rfl rfl (n := 19) rfl ?_
  refine o_getfield X43 hx hZ hown (host := "") (Or.inl (hw _ (List.mem_of_getElem? (i := 21) rfl))) Via.refl e43 pL.f_limits (hb hby d_prog_12_method_9_code_19) (n := 22) rfl ?_
  intro T44 X44 e44
  refine o_iloadN X44 hx (hb hby d_prog_12_method_9_code_22) (v := (0 : Int32)) rfl (n := 23) rfl ?_
  refine o_laload X44 hx hZ e44 pL.v_limits (0) (by decide) (by decide) (v := (.long (o_lim C.b0))) rfl (hb hby d_prog_12_method_9_code_23) (n := 24) rfl ?_
  refine o_callS X44 hx hZ hown (hw _ (List.mem_of_getElem? (i := 55) rfl)) (hw _ (List.mem_of_getElem? (i := 56) rfl)) (hw _ (List.mem_of_getElem? (i := 57) rfl)) (hw _ (List.mem_of_getElem? (i := 58) rfl)) (by decide) e44 (argsL := [(.long (m0 + (1 : Int64))), (.long (o_lim C.b0))]) (rest := []) (c_cmpU l Z a0 hw (m0 + (1 : Int64)) (o_lim C.b0) h0) 0 (by decide) (by decide) (by decide) (by decide) (by rw [hml]; rfl) (lenOf o_pd0 rfl) rfl (Nat.le_of_eq rfl) (hb hby d_prog_12_method_9_code_24) (n := 27) rfl ?_
  intro v45 T45 L45 X45 q45
  obtain ⟨rfl, e45, rfl⟩ := q45
  have N46 := Fr.app N0 (Fr.nil n0)
  show Goes p e below s _ _ _ (T45.setTop (mkF m 27 #[.val (.ref a1), .val (.ref q), .val (.int (0 : Int32)), .val (.long (m0 + (1 : Int64))), .second, .unset, .unset, .unset, .unset] [(.int (o_cmp ((m0 + (1 : Int64)) + (-9223372036854775808 : Int64)) ((o_lim C.b0) + (-9223372036854775808 : Int64))))]))
  by_cases hc27 : (0 : Int32) < (o_cmp ((m0 + (1 : Int64)) + (-9223372036854775808 : Int64)) ((o_lim C.b0) + (-9223372036854775808 : Int64)))
  · refine o_ifN X45 hx (hb hby d_prog_12_method_9_code_27) (XT.i0_le_f hc27) (n := 30) rfl ?_
    obtain ⟨hb1, hb2⟩ := O.b0
    obtain ⟨hw1, hw2, hw3⟩ := o_wi_ok m0 hb1 hb2 hc27
    obtain ⟨hx1, hx2, hx3, hx4, hx5, hx6, hx7, hx8⟩ := o_wx (pl := 0) O (Nat.le_succ_of_le hn) hb1 hw1 hw2
    refine o_aloadN X45 hx (hb hby d_prog_12_method_9_code_30) (v := (.ref a1)) rfl rfl (n := 31) rfl ?_
    refine o_getfield X45 hx hZ hown (host := "") (Or.inl (hw _ (List.mem_of_getElem? (i := 21) rfl))) Via.refl e45 pL.f_limits (hb hby d_prog_12_method_9_code_31) (n := 34) rfl ?_
    intro T47 X47 e47
    refine o_iloadN X47 hx (hb hby d_prog_12_method_9_code_34) (v := (0 : Int32)) rfl (n := 35) rfl ?_
    refine o_laload X47 hx hZ e47 pL.v_limits (0) (by decide) (by decide) (v := (.long (o_lim C.b0))) rfl (hb hby d_prog_12_method_9_code_35) (n := 36) rfl ?_
    refine o_callS X47 hx hZ hown (hw _ (List.mem_of_getElem? (i := 63) rfl)) (hw _ (List.mem_of_getElem? (i := 64) rfl)) (hw _ (List.mem_of_getElem? (i := 57) rfl)) (hw _ (List.mem_of_getElem? (i := 65) rfl)) (by decide) e47 (argsL := [(.long (o_lim C.b0))]) (rest := []) ((o_bcl hb1 hb2) ▸ c_bitCount l Z a0 hw (o_lim C.b0) h0) 0 (by decide) (by decide) (by decide) (by decide) (by rw [hml]; rfl) (lenOf o_pd9 rfl) rfl (Nat.le_of_eq rfl) (hb hby d_prog_12_method_9_code_36) (n := 39) rfl ?_
    intro v48 T48 L48 X48 q48
    obtain ⟨rfl, e48, rfl⟩ := q48
    have N49 := Fr.app N46 (Fr.nil n0)
    show Goes p e below s _ _ _ (T48.setTop (mkF m 39 #[.val (.ref a1), .val (.ref q), .val (.int (0 : Int32)), .val (.long (m0 + (1 : Int64))), .second, .unset, .unset, .unset, .unset] [(.int (n32 C.b0))]))
    refine o_istore X48 hx (hb hby d_prog_12_method_9_code_39) (Ls' := #[.val (.ref a1), .val (.ref q), .val (.int (0 : Int32)), .val (.long (m0 + (1 : Int64))), .second, .val (.int (n32 C.b0)), .unset, .unset, .unset]) rfl (n := 41) rfl ?_
    refine o_bipush X48 hx (hb hby d_prog_12_method_9_code_41) (v := (64 : Int32)) rfl (n := 43) rfl ?_
    refine o_lloadN X48 hx (hb hby d_prog_12_method_9_code_43) (v := (m0 + (1 : Int64))) rfl (n := 44) rfl ?_
    refine o_callS X48 hx hZ hown (hw _ (List.mem_of_getElem? (i := 69) rfl)) (hw _ (List.mem_of_getElem? (i := 70) rfl)) (hw _ (List.mem_of_getElem? (i := 57) rfl)) (hw _ (List.mem_of_getElem? (i := 71) rfl)) (by decide) e48 (argsL := [(.long (m0 + (1 : Int64)))]) (rest := [(.int (64 : Int32))]) (c_nlz l Z a0 hw (m0 + (1 : Int64)) h0) 1 (by decide) (by decide) (by decide) (by decide) (by rw [hml]; rfl) (lenOf o_pd9 rfl) rfl (Nat.le_of_eq rfl) (hb hby d_prog_12_method_9_code_44) (n := 47) rfl ?_
    intro v50 T50 L50 X50 q50
    obtain ⟨rfl, e50, rfl⟩ := q50
    have N51 := Fr.app N49 (Fr.nil n0)
    show Goes p e below s _ _ _ (T50.setTop (mkF m 47 #[.val (.ref a1), .val (.ref q), .val (.int (0 : Int32)), .val (.long (m0 + (1 : Int64))), .second, .val (.int (n32 C.b0)), .unset, .unset, .unset] [(.int (o_nlz (m0 + (1 : Int64)))), (.int (64 : Int32))]))
    refine o_isub X50 hx (hb hby d_prog_12_method_9_code_47) (v := (n32 (o_wl (m0 + 1)))) (o_wl_ok _).2.1 (n := 48) rfl ?_
    refine o_istore X50 hx (hb hby d_prog_12_method_9_code_48) (Ls' := #[.val (.ref a1), .val (.ref q), .val (.int (0 : Int32)), .val (.long (m0 + (1 : Int64))), .second, .val (.int (n32 C.b0)), .val (.int (n32 (o_wl (m0 + 1)))), .unset, .unset]) rfl (n := 50) rfl ?_
    refine o_iload X50 hx (hb hby d_prog_12_method_9_code_50) (v := (n32 (o_wl (m0 + 1)))) rfl (n := 52) rfl ?_
    refine o_iconst X50 hx (hb hby d_prog_12_method_9_code_52) (v := (2 : Int32)) rfl (n := 53) rfl ?_
    refine o_iload X50 hx (hb hby d_prog_12_method_9_code_53) (v := (n32 C.b0)) rfl (n := 55) rfl ?_
    refine o_imul X50 hx (hb hby d_prog_12_method_9_code_55) (v := (n32 (2 * C.b0))) (o_n2 _) (n := 56) rfl ?_
    refine o_bipush X50 hx (hb hby d_prog_12_method_9_code_56) (v := (64 : Int32)) rfl (n := 58) rfl ?_
    refine o_callS X50 hx hZ hown (hw _ (List.mem_of_getElem? (i := 76) rfl)) (hw _ (List.mem_of_getElem? (i := 77) rfl)) (hw _ (List.mem_of_getElem? (i := 42) rfl)) (hw _ (List.mem_of_getElem? (i := 78) rfl)) (by decide) e50 (argsL := [(.int (n32 (2 * C.b0))), (.int (64 : Int32))]) (rest := [(.int (n32 (o_wl (m0 + 1))))]) ((o_mn2 (a := 2 * C.b0) hx1) ▸ c_min l Z a0 hw (n32 (2 * C.b0)) (64 : Int32) h0) 1 (by decide) (by decide) (by decide) (by decide) (by rw [hml]; rfl) (lenOf o_pd3 rfl) rfl (Nat.le_of_eq rfl) (hb hby d_prog_12_method_9_code_58) (n := 61) rfl ?_
    intro v52 T52 L52 X52 q52
    obtain ⟨rfl, e52, rfl⟩ := q52
    have N53 := Fr.app N51 (Fr.nil n0)
    show Goes p e below s _ _ _ (T52.setTop (mkF m 61 #[.val (.ref a1), .val (.ref q), .val (.int (0 : Int32)), .val (.long (m0 + (1 : Int64))), .second, .val (.int (n32 C.b0)), .val (.int (n32 (o_wl (m0 + 1)))), .unset, .unset] [(.int (n32 (min (2 * C.b0) 64))), (.int (n32 (o_wl (m0 + 1))))]))
    refine o_callS X52 hx hZ hown (hw _ (List.mem_of_getElem? (i := 40) rfl)) (hw _ (List.mem_of_getElem? (i := 41) rfl)) (hw _ (List.mem_of_getElem? (i := 42) rfl)) (hw _ (List.mem_of_getElem? (i := 43) rfl)) (by decide) e52 (argsL := [(.int (n32 (o_wl (m0 + 1)))), (.int (n32 (min (2 * C.b0) 64)))]) (rest := []) ((o_mx2 (o_wl_ok _).1 (Nat.min_le_right _ _)) ▸ c_max l Z a0 hw (n32 (o_wl (m0 + 1))) (n32 (min (2 * C.b0) 64)) h0) 0 (by decide) (by decide) (by decide) (by decide) (by rw [hml]; rfl) (lenOf o_pd3 rfl) rfl (Nat.le_of_eq rfl) (hb hby d_prog_12_method_9_code_61) (n := 64) rfl ?_
    intro v54 T54 L54 X54 q54
    obtain ⟨rfl, e54, rfl⟩ := q54
    have N55 := Fr.app N53 (Fr.nil n0)
    show Goes p e below s _ _ _ (T54.setTop (mkF m 64 #[.val (.ref a1), .val (.ref q), .val (.int (0 : Int32)), .val (.long (m0 + (1 : Int64))), .second, .val (.int (n32 C.b0)), .val (.int (n32 (o_wl (m0 + 1)))), .unset, .unset] [(.int (n32 (o_wi (m0 + 1) C.b0)))]))
    refine o_istore X54 hx (hb hby d_prog_12_method_9_code_64) (Ls' := #[.val (.ref a1), .val (.ref q), .val (.int (0 : Int32)), .val (.long (m0 + (1 : Int64))), .second, .val (.int (n32 C.b0)), .val (.int (n32 (o_wl (m0 + 1)))), .val (.int (n32 (o_wi (m0 + 1) C.b0))), .unset]) rfl (n := 66) rfl ?_
    refine o_aloadN X54 hx (hb hby d_prog_12_method_9_code_66) (v := (.ref a1)) rfl rfl (n := 67) rfl ?_
    refine o_iloadN X54 hx (hb hby d_prog_12_method_9_code_67) (v := (0 : Int32)) rfl (n := 68) rfl ?_
    refine o_iload X54 hx (hb hby d_prog_12_method_9_code_68) (v := (n32 C.b0)) rfl (n := 70) rfl ?_
    refine o_iload X54 hx (hb hby d_prog_12_method_9_code_70) (v := (n32 (o_wi (m0 + 1) C.b0))) rfl (n := 72) rfl ?_
    refine o_iload X54 hx (hb hby d_prog_12_method_9_code_72) (v := (n32 C.b0)) rfl (n := 74) rfl ?_
    refine o_isub X54 hx (hb hby d_prog_12_method_9_code_74) (v := (n32 ((o_wi (m0 + 1) C.b0) - C.b0))) (o_nsub (Nat.le_of_lt hw1) hx2) (n := 75) rfl ?_
    refine o_iconst X54 hx (hb hby d_prog_12_method_9_code_75) (v := (0 : Int32)) rfl (n := 76) rfl ?_
    refine o_callP X54 hx hZ hown (hw _ (List.mem_of_getElem? (i := 44) rfl)) (hw _ (List.mem_of_getElem? (i := 45) rfl)) (hw _ (List.mem_of_getElem? (i := 46) rfl)) (hw _ (List.mem_of_getElem? (i := 1) rfl)) (hw _ (List.mem_of_getElem? (i := 2) rfl)) (hw _ (List.mem_of_getElem? (i := 47) rfl)) (by decide) e54 pL.E (argsL := [(.int (0 : Int32)), (.int (n32 C.b0)), (.int (n32 ((o_wi (m0 + 1) C.b0) - C.b0))), (.int (0 : Int32))]) (rest := []) (c_add l Z a0 hw a1 A C 0 C.b0 ((o_wi (m0 + 1) C.b0) - C.b0) h0 n0 Z0 pL O.inv (Nat.le_succ_of_le hn) hx3) 0 (by decide) (by decide) (by decide) (by decide) (by rw [hml]; rfl) (lenOf o_pd6 rfl) rfl (Nat.le_of_eq rfl) (hb hby d_prog_12_method_9_code_76) (n := 79) rfl ?_
    intro v56 T56 L56 X56 q56
    obtain ⟨A_56, rfl, Nq56, K56, sb56, L_56⟩ := q56
    have N57 := Fr.app N55 Nq56
    have ni56_q : q ∉ a1 :: A_56.all := o_ninG nin pV.lt sb56
    have f58 := pV.keep K56 nin
    have zz56 : n0 ≤ T56.heap.size := Nat.le_trans Z0 K56.1
    have K59 : Keep h0 T56.heap [a1, A.l, A.p, A.lo, A.m, A.w, A.s, A.x, A.t] := (Keep.refl h0 [a1, A.l, A.p, A.lo, A.m, A.w, A.s, A.x, A.t]).trans K56 sub0
    have su56 : ∀ y ∈ a1 :: A_56.all, y ∈ [a1, A.l, A.p, A.lo, A.m, A.w, A.s, A.x, A.t] ∨ h0.size ≤ y := o_subT sub0 sb56 (Keep.refl h0 [a1, A.l, A.p, A.lo, A.m, A.w, A.s, A.x, A.t]).1
    show Goes p e below s _ _ _ (T56.setTop (mkF m 79 #[.val (.ref a1), .val (.ref q), .val (.int (0 : Int32)), .val (.long (m0 + (1 : Int64))), .second, .val (.int (n32 C.b0)), .val (.int (n32 (o_wl (m0 + 1)))), .val (.int (n32 (o_wi (m0 + 1) C.b0))), .unset] [(.int (n32 C.P.length))]))
    refine o_istore X56 hx (hb hby d_prog_12_method_9_code_79) (Ls' := #[.val (.ref a1), .val (.ref q), .val (.int (0 : Int32)), .val (.long (m0 + (1 : Int64))), .second, .val (.int (n32 C.b0)), .val (.int (n32 (o_wl (m0 + 1)))), .val (.int (n32 (o_wi (m0 + 1) C.b0))), .val (.int (n32 C.P.length))]) rfl (n := 81) rfl ?_
    refine o_aloadN X56 hx (hb hby d_prog_12_method_9_code_81) (v := (.ref a1)) rfl rfl (n := 82) rfl ?_
    refine o_getfield X56 hx hZ hown (host := "") (Or.inl (hw _ (List.mem_of_getElem? (i := 33) rfl))) Via.refl (rfl : T56.heap = T56.heap) L_56.f_nexts (hb hby d_prog_12_method_9_code_82) (n := 85) rfl ?_
    intro T60 X60 e60
    refine o_iload X60 hx (hb hby d_prog_12_method_9_code_85) (v := (n32 C.P.length)) rfl (n := 87) rfl ?_
    refine o_aloadN X60 hx (hb hby d_prog_12_method_9_code_87) (v := (.ref a1)) rfl rfl (n := 88) rfl ?_
    refine o_getfield X60 hx hZ hown (host := "") (Or.inl (hw _ (List.mem_of_getElem? (i := 33) rfl))) Via.refl e60 L_56.f_nexts (hb hby d_prog_12_method_9_code_88) (n := 91) rfl ?_
    intro T61 X61 e61
    refine o_iloadN X61 hx (hb hby d_prog_12_method_9_code_91) (v := (0 : Int32)) rfl (n := 92) rfl ?_
    refine o_iaload X61 hx hZ e61 L_56.v_nexts (0) (by decide) (hx4 _ (by decide)) (v := (.int ((o_add C 0 C.b0 ((o_wi (m0 + 1) C.b0) - C.b0)).xs.getD 0 0))) (o_xgd _ _) (hb hby d_prog_12_method_9_code_92) (n := 93) rfl ?_
    refine o_iastore X61 hx hZ e61 L_56.v_nexts (C.P.length) (o_nt hx5) hx6 hx7 (w := (.int ((o_add C 0 C.b0 ((o_wi (m0 + 1) C.b0) - C.b0)).xs.getD 0 0))) rfl (vs' := (((o_add C 0 C.b0 ((o_wi (m0 + 1) C.b0) - C.b0)).xs.set C.P.length ((o_add C 0 C.b0 ((o_wi (m0 + 1) C.b0) - C.b0)).xs.getD 0 0)).map Value.int)) (o_xset _ _ _) (hb hby d_prog_12_method_9_code_93) (n := 94) rfl ?_
    intro T62 h62 X62 e62 W62 V62
    have L65 : o_L Z h62 n0 a1 A_56 ⟨C.b0, C.b1, (o_add C 0 C.b0 ((o_wi (m0 + 1) C.b0) - C.b0)).P, ((o_add C 0 C.b0 ((o_wi (m0 + 1) C.b0) - C.b0)).xs.set C.P.length ((o_add C 0 C.b0 ((o_wi (m0 + 1) C.b0) - C.b0)).xs.getD 0 0)), (o_add C 0 C.b0 ((o_wi (m0 + 1) C.b0) - C.b0)).ts⟩ := L_56.set_nexts (xs := ((o_add C 0 C.b0 ((o_wi (m0 + 1) C.b0) - C.b0)).xs.set C.P.length ((o_add C 0 C.b0 ((o_wi (m0 + 1) C.b0) - C.b0)).xs.getD 0 0))) W62 V62
    have zz62 : n0 ≤ h62.size := Nat.le_trans zz56 (Nat.le_of_eq W62.size.symm)
    have N66 := Fr.snoc X62 N57 (L65.ge _ (List.mem_of_getElem? (i := 7) rfl))
    have K67 : Keep h0 h62 [a1, A.l, A.p, A.lo, A.m, A.w, A.s, A.x, A.t] := K59.wr W62 (su56 _ (List.mem_of_getElem? (i := 7) rfl))
    refine o_aloadN X62 hx (hb hby d_prog_12_method_9_code_94) (v := (.ref a1)) rfl rfl (n := 95) rfl ?_
    refine o_getfield X62 hx hZ hown (host := "") (Or.inl (hw _ (List.mem_of_getElem? (i := 33) rfl))) Via.refl e62 L65.f_nexts (hb hby d_prog_12_method_9_code_95) (n := 98) rfl ?_
    intro T68 X68 e68
    refine o_iloadN X68 hx (hb hby d_prog_12_method_9_code_98) (v := (0 : Int32)) rfl (n := 99) rfl ?_
    refine o_iload X68 hx (hb hby d_prog_12_method_9_code_99) (v := (n32 C.P.length)) rfl (n := 101) rfl ?_
    refine o_iastore X68 hx hZ e68 L65.v_nexts (0) (by decide) (hx4 _ (by decide)) (hx8 _ _ (by decide)) (w := (.int (n32 C.P.length))) rfl (vs' := ((((o_add C 0 C.b0 ((o_wi (m0 + 1) C.b0) - C.b0)).xs.set C.P.length ((o_add C 0 C.b0 ((o_wi (m0 + 1) C.b0) - C.b0)).xs.getD 0 0)).set 0 (n32 C.P.length)).map Value.int)) (o_xset _ _ _) (hb hby d_prog_12_method_9_code_101) (n := 102) rfl ?_
    intro T69 h69 X69 e69 W69 V69
    have L72 : o_L Z h69 n0 a1 A_56 ⟨C.b0, C.b1, (o_add C 0 C.b0 ((o_wi (m0 + 1) C.b0) - C.b0)).P, (((o_add C 0 C.b0 ((o_wi (m0 + 1) C.b0) - C.b0)).xs.set C.P.length ((o_add C 0 C.b0 ((o_wi (m0 + 1) C.b0) - C.b0)).xs.getD 0 0)).set 0 (n32 C.P.length)), (o_add C 0 C.b0 ((o_wi (m0 + 1) C.b0) - C.b0)).ts⟩ := L65.set_nexts (xs := (((o_add C 0 C.b0 ((o_wi (m0 + 1) C.b0) - C.b0)).xs.set C.P.length ((o_add C 0 C.b0 ((o_wi (m0 + 1) C.b0) - C.b0)).xs.getD 0 0)).set 0 (n32 C.P.length))) W69 V69
    have zz69 : n0 ≤ h69.size := Nat.le_trans zz62 (Nat.le_of_eq W69.size.symm)
    have N73 := Fr.snoc X69 N66 (L72.ge _ (List.mem_of_getElem? (i := 7) rfl))
    have K74 : Keep h0 h69 [a1, A.l, A.p, A.lo, A.m, A.w, A.s, A.x, A.t] := K67.wr W69 (su56 _ (List.mem_of_getElem? (i := 7) rfl))
    refine o_aloadN X69 hx (hb hby d_prog_12_method_9_code_102) (v := (.ref a1)) rfl rfl (n := 103) rfl ?_
    refine o_getfield X69 hx hZ hown (host := "") (Or.inl (hw _ (List.mem_of_getElem? (i := 21) rfl))) Via.refl e69 L72.f_limits (hb hby d_prog_12_method_9_code_103) (n := 106) rfl ?_
    intro T75 X75 e75
    refine o_iloadN X75 hx (hb hby d_prog_12_method_9_code_106) (v := (0 : Int32)) rfl (n := 107) rfl ?_
    refine o_ldc2_w X75 hx hZ (v := (-1 : Int64)) hown (hw _ (List.mem_of_getElem? (i := 37) rfl)) (hb hby d_prog_12_method_9_code_107) (n := 110) rfl ?_
    refine o_bipush X75 hx (hb hby d_prog_12_method_9_code_110) (v := (64 : Int32)) rfl (n := 112) rfl ?_
    refine o_iload X75 hx (hb hby d_prog_12_method_9_code_112) (v := (n32 (o_wi (m0 + 1) C.b0))) rfl (n := 114) rfl ?_
    refine o_isub X75 hx (hb hby d_prog_12_method_9_code_114) (v := ((64 : Int32) - (n32 (o_wi (m0 + 1) C.b0)))) rfl (n := 115) rfl ?_
    refine o_lushr X75 hx (hb hby d_prog_12_method_9_code_115) (v := (o_mk (n32 (o_wi (m0 + 1) C.b0)))) rfl (n := 116) rfl ?_
    refine o_lastore X75 hx hZ e75 L72.v_limits (0) (by decide) (by decide) (Nat.le_of_ble_eq_true rfl) (w := (.long (o_lim (o_wi (m0 + 1) C.b0)))) (congrArg Value.long (o_lim_mk (Nat.lt_of_le_of_lt (Nat.zero_le _) hw1))) (vs' := [.long (o_lim (o_wi (m0 + 1) C.b0)), .long (o_lim C.b1)]) rfl (hb hby d_prog_12_method_9_code_116) (n := 117) rfl ?_
    intro T76 h76 X76 e76 W76 V76
    have L79 : o_L Z h76 n0 a1 A_56 (o_st 0 C m0) := Eq.mp (congrArg (o_L Z h76 n0 a1 A_56) (o_stT (p := 0) (C := C) (m := m0) hc27)) (L72.set_limits (b0 := (o_wi (m0 + 1) C.b0)) (b1 := C.b1) W76 V76)
    have zz76 : n0 ≤ h76.size := Nat.le_trans zz69 (Nat.le_of_eq W76.size.symm)
    have N80 := Fr.snoc X76 N73 (L79.ge _ (List.mem_of_getElem? (i := 1) rfl))
    have K81 : Keep h0 h76 [a1, A.l, A.p, A.lo, A.m, A.w, A.s, A.x, A.t] := K74.wr W76 (su56 _ (List.mem_of_getElem? (i := 1) rfl))
    refine o_iinc X76 hx (hb hby d_prog_12_method_9_code_117) (w := (1 : Int32)) rfl (by decide) (Ls' := #[.val (.ref a1), .val (.ref q), .val (.int (1 : Int32)), .val (.long (m0 + (1 : Int64))), .second, .val (.int (n32 C.b0)), .val (.int (n32 (o_wl (m0 + 1)))), .val (.int (n32 (o_wi (m0 + 1) C.b0))), .val (.int (n32 C.P.length))]) rfl (n := 120) rfl ?_
    refine o_goto X76 hx (hb hby d_prog_12_method_9_code_120) (by decide) (n := 2) (by decide) ?_
    exact k2 _ _ _ A_56 _ _ _ _ _ (o_mono X76 (by decide) (by decide)) e76 N80 zz76 K81 (Or.inr ⟨_, rfl⟩) (Or.inr ⟨_, rfl⟩) (Or.inr ⟨_, rfl⟩) (Or.inr ⟨_, rfl⟩) rfl su56 L79 (((f58.other W62 (o_nem ni56_q (List.mem_of_getElem? (i := 7) rfl))).other W69 (o_nem ni56_q (List.mem_of_getElem? (i := 7) rfl))).other W76 (o_nem ni56_q (List.mem_of_getElem? (i := 1) rfl))) ni56_q (o_st_ok O 0 (by decide) m0).1 (Nat.le_trans (o_st_ok O 0 (by decide) m0).2.2.2 (Nat.add_le_add_right hn 1))
  · refine o_ifY X45 hx (hb hby d_prog_12_method_9_code_27) (XT.i0_le_t hc27) (by decide) (n := 117) (by decide) ?_
    have L82 : o_L Z h0 n0 a1 A (o_st 0 C m0) := Eq.mp (congrArg (o_L Z h0 n0 a1 A) (o_stF (p := 0) (C := C) (m := m0) hc27)) pL
    refine o_iinc X45 hx (hb hby d_prog_12_method_9_code_117) (w := (1 : Int32)) rfl (by decide) (Ls' := #[.val (.ref a1), .val (.ref q), .val (.int (1 : Int32)), .val (.long (m0 + (1 : Int64))), .second, .unset, .unset, .unset, .unset]) rfl (n := 120) rfl ?_
    refine o_goto X45 hx (hb hby d_prog_12_method_9_code_120) (by decide) (n := 2) (by decide) ?_
    exact k2 _ _ _ A _ _ _ _ _ (o_mono X45 (by decide) (by decide)) e45 N46 Z0 (Keep.refl h0 [a1, A.l, A.p, A.lo, A.m, A.w, A.s, A.x, A.t]) (Or.inl rfl) (Or.inl rfl) (Or.inl rfl) (Or.inl rfl) rfl sub0 L82 pV nin (o_st_ok O 0 (by decide) m0).1 (Nat.le_trans (o_st_ok O 0 (by decide) m0).2.2.2 (Nat.add_le_add_right hn 1))
theorem d_prog_12_method_6_code_0 : decode prog_12_method_6_code 0 = .ok (.iconst 0, 1) := by decide +kernel
theorem d_prog_12_method_6_code_1 : decode prog_12_method_6_code 1 = .ok (.istore_n 3, 1) := by decide +kernel
theorem d_prog_12_method_6_code_2 : decode prog_12_method_6_code 2 = .ok (.iload_n 3, 1) := by decide +kernel
theorem d_prog_12_method_6_code_3 : decode prog_12_method_6_code 3 = .ok (.aload_n 0, 1) := by decide +kernel
theorem d_prog_12_method_6_code_4 : decode prog_12_method_6_code 4 = .ok (.getfield 44, 3) := by decide +kernel
theorem d_prog_12_method_6_code_7 : decode prog_12_method_6_code 7 = .ok (.if_icmp .ge 13, 3) := by decide +kernel
theorem d_prog_12_method_6_code_20 : decode prog_12_method_6_code 20 = .ok (.lconst 0, 1) := by decide +kernel
theorem d_prog_12_method_6_code_21 : decode prog_12_method_6_code 21 = .ok (.lstore_n 3, 1) := by decide +kernel
theorem d_prog_12_method_6_code_22 : decode prog_12_method_6_code 22 = .ok (.iconst 0, 1) := by decide +kernel
theorem d_prog_12_method_6_code_23 : decode prog_12_method_6_code 23 = .ok (.istore 5, 2) := by decide +kernel
theorem d_prog_12_method_6_code_25 : decode prog_12_method_6_code 25 = .ok (.iload 5, 2) := by decide +kernel
theorem d_prog_12_method_6_code_27 : decode prog_12_method_6_code 27 = .ok (.aload_n 0, 1) := by decide +kernel
theorem d_prog_12_method_6_code_28 : decode prog_12_method_6_code 28 = .ok (.getfield 16, 3) := by decide +kernel
theorem d_prog_12_method_6_code_31 : decode prog_12_method_6_code 31 = .ok (.arraylength, 1) := by decide +kernel
theorem d_prog_12_method_6_code_32 : decode prog_12_method_6_code 32 = .ok (.if_icmp .ge 64, 3) := by decide +kernel
theorem d_prog_12_method_6_code_35 : decode prog_12_method_6_code 35 = .ok (.aload_n 1, 1) := by decide +kernel
theorem d_prog_12_method_6_code_36 : decode prog_12_method_6_code 36 = .ok (.iload 5, 2) := by decide +kernel
theorem d_prog_12_method_6_code_38 : decode prog_12_method_6_code 38 = .ok (.laload, 1) := by decide +kernel
theorem d_prog_12_method_6_code_39 : decode prog_12_method_6_code 39 = .ok (.lconst 1, 1) := by decide +kernel
theorem d_prog_12_method_6_code_40 : decode prog_12_method_6_code 40 = .ok (.ladd, 1) := by decide +kernel
theorem d_prog_12_method_6_code_41 : decode prog_12_method_6_code 41 = .ok (.lstore 6, 2) := by decide +kernel
theorem d_prog_12_method_6_code_43 : decode prog_12_method_6_code 43 = .ok (.lload_n 3, 1) := by decide +kernel
theorem d_prog_12_method_6_code_44 : decode prog_12_method_6_code 44 = .ok (.lload 6, 2) := by decide +kernel
theorem d_prog_12_method_6_code_46 : decode prog_12_method_6_code 46 = .ok (.aload_n 0, 1) := by decide +kernel
theorem d_prog_12_method_6_code_47 : decode prog_12_method_6_code 47 = .ok (.getfield 16, 3) := by decide +kernel
theorem d_prog_12_method_6_code_50 : decode prog_12_method_6_code 50 = .ok (.iload 5, 2) := by decide +kernel
theorem d_prog_12_method_6_code_52 : decode prog_12_method_6_code 52 = .ok (.laload, 1) := by decide +kernel
theorem d_prog_12_method_6_code_53 : decode prog_12_method_6_code 53 = .ok (.ldc2_w 42, 3) := by decide +kernel
theorem d_prog_12_method_6_code_56 : decode prog_12_method_6_code 56 = .ok (.lxor, 1) := by decide +kernel
theorem d_prog_12_method_6_code_57 : decode prog_12_method_6_code 57 = .ok (.land, 1) := by decide +kernel
theorem d_prog_12_method_6_code_58 : decode prog_12_method_6_code 58 = .ok (.lor, 1) := by decide +kernel
theorem d_prog_12_method_6_code_59 : decode prog_12_method_6_code 59 = .ok (.lstore_n 3, 1) := by decide +kernel
theorem d_prog_12_method_6_code_60 : decode prog_12_method_6_code 60 = .ok (.aload_n 2, 1) := by decide +kernel
theorem d_prog_12_method_6_code_61 : decode prog_12_method_6_code 61 = .ok (.aload_n 0, 1) := by decide +kernel
theorem d_prog_12_method_6_code_62 : decode prog_12_method_6_code 62 = .ok (.getfield 30, 3) := by decide +kernel
theorem d_prog_12_method_6_code_65 : decode prog_12_method_6_code 65 = .ok (.iload 5, 2) := by decide +kernel
theorem d_prog_12_method_6_code_67 : decode prog_12_method_6_code 67 = .ok (.iaload, 1) := by decide +kernel
theorem d_prog_12_method_6_code_68 : decode prog_12_method_6_code 68 = .ok (.dup2, 1) := by decide +kernel
theorem d_prog_12_method_6_code_69 : decode prog_12_method_6_code 69 = .ok (.laload, 1) := by decide +kernel
theorem d_prog_12_method_6_code_70 : decode prog_12_method_6_code 70 = .ok (.lload 6, 2) := by decide +kernel
theorem d_prog_12_method_6_code_72 : decode prog_12_method_6_code 72 = .ok (.aload_n 0, 1) := by decide +kernel
theorem d_prog_12_method_6_code_73 : decode prog_12_method_6_code 73 = .ok (.getfield 27, 3) := by decide +kernel
theorem d_prog_12_method_6_code_76 : decode prog_12_method_6_code 76 = .ok (.iload 5, 2) := by decide +kernel
theorem d_prog_12_method_6_code_78 : decode prog_12_method_6_code 78 = .ok (.laload, 1) := by decide +kernel
theorem d_prog_12_method_6_code_79 : decode prog_12_method_6_code 79 = .ok (.land, 1) := by decide +kernel
theorem d_prog_12_method_6_code_80 : decode prog_12_method_6_code 80 = .ok (.aload_n 0, 1) := by decide +kernel
theorem d_prog_12_method_6_code_81 : decode prog_12_method_6_code 81 = .ok (.getfield 33, 3) := by decide +kernel
theorem d_prog_12_method_6_code_84 : decode prog_12_method_6_code 84 = .ok (.iload 5, 2) := by decide +kernel
theorem d_prog_12_method_6_code_86 : decode prog_12_method_6_code 86 = .ok (.iaload, 1) := by decide +kernel
theorem d_prog_12_method_6_code_87 : decode prog_12_method_6_code 87 = .ok (.lshl, 1) := by decide +kernel
theorem d_prog_12_method_6_code_88 : decode prog_12_method_6_code 88 = .ok (.lor, 1) := by decide +kernel
theorem d_prog_12_method_6_code_89 : decode prog_12_method_6_code 89 = .ok (.lastore, 1) := by decide +kernel
theorem d_prog_12_method_6_code_90 : decode prog_12_method_6_code 90 = .ok (.iinc 5 1, 3) := by decide +kernel
theorem d_prog_12_method_6_code_93 : decode prog_12_method_6_code 93 = .ok (.goto (-68), 3) := by decide +kernel
theorem d_prog_12_method_6_code_96 : decode prog_12_method_6_code 96 = .ok (.aload_n 0, 1) := by decide +kernel
theorem d_prog_12_method_6_code_97 : decode prog_12_method_6_code 97 = .ok (.getfield 16, 3) := by decide +kernel
theorem d_prog_12_method_6_code_100 : decode prog_12_method_6_code 100 = .ok (.arraylength, 1) := by decide +kernel
theorem d_prog_12_method_6_code_101 : decode prog_12_method_6_code 101 = .ok (.istore 5, 2) := by decide +kernel
theorem d_prog_12_method_6_code_103 : decode prog_12_method_6_code 103 = .ok (.iload 5, 2) := by decide +kernel
theorem d_prog_12_method_6_code_105 : decode prog_12_method_6_code 105 = .ok (.aload_n 0, 1) := by decide +kernel
theorem d_prog_12_method_6_code_106 : decode prog_12_method_6_code 106 = .ok (.getfield 68, 3) := by decide +kernel
theorem d_prog_12_method_6_code_109 : decode prog_12_method_6_code 109 = .ok (.if_icmp .ge 60, 3) := by decide +kernel
theorem d_prog_12_method_6_code_169 : decode prog_12_method_6_code 169 = .ok (.lload_n 3, 1) := by decide +kernel
theorem d_prog_12_method_6_code_170 : decode prog_12_method_6_code 170 = .ok (.lconst 0, 1) := by decide +kernel
theorem d_prog_12_method_6_code_171 : decode prog_12_method_6_code 171 = .ok (.lcmp, 1) := by decide +kernel
theorem d_prog_12_method_6_code_172 : decode prog_12_method_6_code 172 = .ok (.ifCond .ne 7, 3) := by decide +kernel
theorem d_prog_12_method_6_code_175 : decode prog_12_method_6_code 175 = .ok (.iconst 1, 1) := by decide +kernel
theorem d_prog_12_method_6_code_176 : decode prog_12_method_6_code 176 = .ok (.goto 4, 3) := by decide +kernel
theorem d_prog_12_method_6_code_180 : decode prog_12_method_6_code 180 = .ok (.ireturn, 1) := by decide +kernel
theorem d_prog_12_method_6_code_179 : decode prog_12_method_6_code 179 = .ok (.iconst 0, 1) := by decide +kernel
theorem d_prog_12_method_6_code_112 : decode prog_12_method_6_code 112 = .ok (.aload_n 1, 1) := by decide +kernel
theorem d_prog_12_method_6_code_113 : decode prog_12_method_6_code 113 = .ok (.aload_n 0, 1) := by decide +kernel
theorem d_prog_12_method_6_code_114 : decode prog_12_method_6_code 114 = .ok (.getfield 20, 3) := by decide +kernel
theorem d_prog_12_method_6_code_117 : decode prog_12_method_6_code 117 = .ok (.iload 5, 2) := by decide +kernel
theorem d_prog_12_method_6_code_119 : decode prog_12_method_6_code 119 = .ok (.iaload, 1) := by decide +kernel
theorem d_prog_12_method_6_code_120 : decode prog_12_method_6_code 120 = .ok (.laload, 1) := by decide +kernel
theorem d_prog_12_method_6_code_121 : decode prog_12_method_6_code 121 = .ok (.lconst 1, 1) := by decide +kernel
theorem d_prog_12_method_6_code_122 : decode prog_12_method_6_code 122 = .ok (.ladd, 1) := by decide +kernel
theorem d_prog_12_method_6_code_123 : decode prog_12_method_6_code 123 = .ok (.lstore 6, 2) := by decide +kernel
theorem d_prog_12_method_6_code_125 : decode prog_12_method_6_code 125 = .ok (.aload_n 2, 1) := by decide +kernel
theorem d_prog_12_method_6_code_126 : decode prog_12_method_6_code 126 = .ok (.aload_n 0, 1) := by decide +kernel
theorem d_prog_12_method_6_code_127 : decode prog_12_method_6_code 127 = .ok (.getfield 30, 3) := by decide +kernel
theorem d_prog_12_method_6_code_130 : decode prog_12_method_6_code 130 = .ok (.iload 5, 2) := by decide +kernel
theorem d_prog_12_method_6_code_132 : decode prog_12_method_6_code 132 = .ok (.iaload, 1) := by decide +kernel
theorem d_prog_12_method_6_code_133 : decode prog_12_method_6_code 133 = .ok (.dup2, 1) := by decide +kernel
theorem d_prog_12_method_6_code_134 : decode prog_12_method_6_code 134 = .ok (.laload, 1) := by decide +kernel
theorem d_prog_12_method_6_code_135 : decode prog_12_method_6_code 135 = .ok (.lload 6, 2) := by decide +kernel
theorem d_prog_12_method_6_code_137 : decode prog_12_method_6_code 137 = .ok (.aload_n 0, 1) := by decide +kernel
theorem d_prog_12_method_6_code_138 : decode prog_12_method_6_code 138 = .ok (.getfield 24, 3) := by decide +kernel
theorem d_prog_12_method_6_code_141 : decode prog_12_method_6_code 141 = .ok (.iload 5, 2) := by decide +kernel
theorem d_prog_12_method_6_code_143 : decode prog_12_method_6_code 143 = .ok (.iaload, 1) := by decide +kernel
theorem d_prog_12_method_6_code_144 : decode prog_12_method_6_code 144 = .ok (.lushr, 1) := by decide +kernel
theorem d_prog_12_method_6_code_145 : decode prog_12_method_6_code 145 = .ok (.aload_n 0, 1) := by decide +kernel
theorem d_prog_12_method_6_code_146 : decode prog_12_method_6_code 146 = .ok (.getfield 27, 3) := by decide +kernel
theorem d_prog_12_method_6_code_149 : decode prog_12_method_6_code 149 = .ok (.iload 5, 2) := by decide +kernel
theorem d_prog_12_method_6_code_151 : decode prog_12_method_6_code 151 = .ok (.laload, 1) := by decide +kernel
theorem d_prog_12_method_6_code_152 : decode prog_12_method_6_code 152 = .ok (.land, 1) := by decide +kernel
theorem d_prog_12_method_6_code_153 : decode prog_12_method_6_code 153 = .ok (.aload_n 0, 1) := by decide +kernel
theorem d_prog_12_method_6_code_154 : decode prog_12_method_6_code 154 = .ok (.getfield 33, 3) := by decide +kernel
theorem d_prog_12_method_6_code_157 : decode prog_12_method_6_code 157 = .ok (.iload 5, 2) := by decide +kernel
theorem d_prog_12_method_6_code_159 : decode prog_12_method_6_code 159 = .ok (.iaload, 1) := by decide +kernel
theorem d_prog_12_method_6_code_160 : decode prog_12_method_6_code 160 = .ok (.lshl, 1) := by decide +kernel
theorem d_prog_12_method_6_code_161 : decode prog_12_method_6_code 161 = .ok (.lor, 1) := by decide +kernel
theorem d_prog_12_method_6_code_162 : decode prog_12_method_6_code 162 = .ok (.lastore, 1) := by decide +kernel
theorem d_prog_12_method_6_code_163 : decode prog_12_method_6_code 163 = .ok (.iinc 5 1, 3) := by decide +kernel
theorem d_prog_12_method_6_code_166 : decode prog_12_method_6_code 166 = .ok (.goto (-63), 3) := by decide +kernel
theorem d_prog_12_method_6_code_10 : decode prog_12_method_6_code 10 = .ok (.aload_n 2, 1) := by decide +kernel
theorem d_prog_12_method_6_code_11 : decode prog_12_method_6_code 11 = .ok (.iload_n 3, 1) := by decide +kernel
theorem d_prog_12_method_6_code_12 : decode prog_12_method_6_code 12 = .ok (.lconst 0, 1) := by decide +kernel
theorem d_prog_12_method_6_code_13 : decode prog_12_method_6_code 13 = .ok (.lastore, 1) := by decide +kernel
theorem d_prog_12_method_6_code_14 : decode prog_12_method_6_code 14 = .ok (.iinc 3 1, 3) := by decide +kernel
theorem d_prog_12_method_6_code_17 : decode prog_12_method_6_code 17 = .ok (.goto (-15), 3) := by decide +kernel
theorem o_ef17 (m : MethodId) (a1 : Addr) (q : Addr) (r : Addr) : entryFrame m #[(.ref a1), (.ref q), (.ref r)] 8 = mkF m 0 #[.val (.ref a1), .val (.ref q), .val (.ref r), .unset, .unset, .unset, .unset, .unset] [] := by first | (simp [entryFrame, mkF, argsToLocals, Value.category]; done) | rfl
set_option maxRecDepth 65536 in
set_option maxHeartbeats 40000000 in
theorem c_pack (l : Launch) (Z : State) (a0 : Array Value) (hw : ∀ d ∈ tables_1, d.before a0 Z = true) (a1 : Addr) (A : o_A) (C : o_C) (q : Addr) (k1 : ClassId) (m0 m1 : Int64) (r : Addr) (k2 : ClassId) (u : Nat) (Lr : List Int64) (h0 : Heap) (n0 : Nat) (Z0 : n0 ≤ h0.size) (pg : n0 ≤ r) (pL : o_L Z h0 n0 a1 A C) (pV : Arv Z h0 q k1 .long 2 [.long m0, .long m1] (.long 0)) (pW : Arv Z h0 r k2 .long (n32 u) (Lr.map Value.long) (.long 0)) (niq : q ∉ a1 :: A.all) (nir : r ∉ a1 :: A.all) (pne : q ≠ r) (O : o_Ok C) (hn : C.P.length ≤ 6) (hu : C.ts.length ≤ u) (hu8 : u ≤ 12) (hl : Lr.length = u) :
    Does l Z (⟨"com/example/marke/marke/analysis/MarkingLayout", "pack", "([J[J)Z"⟩ : MethodName) prog_12_method_6_code 8 (some .boolean) [] ({ frames := 0, cells := 0, slots := 0, locals := 0 } : Room) #[(.ref a1), (.ref q), (.ref r)] h0 (fun v h L => v = some (.int (o_pr C m0 m1)) ∧ Fr n0 L ∧ Keep h0 h [r] ∧ Arv Z h r k2 .long (n32 u) ((o_pk C Lr m0 m1).map Value.long) (.long 0)) := by
  refine Does.of (plainFor_of_name o_pn3) ?_
  intro p e s m below meth c T0 hx hby hml hown hnm hret hlk hZ X0 e0
  have hown : s.vm.findClass "com/example/marke/marke/analysis/MarkingLayout" = some m.cls := hown
  have hml : c.maxLocals = 8 := hml
  have hret : meth.sig.returnType = some .boolean := hret
  refine o_entry (o_ef17 m a1 q r) ?_
  have N0 := Fr.nil n0
  obtain ⟨bT, bU, bP, lP, bcP, hT0, hu0, hix, h2l⟩ := o_pb O hn hu hu8
  obtain ⟨R, hP⟩ := O.fst
  refine o_iconst X0 hx (hb hby d_prog_12_method_6_code_0) (v := (0 : Int32)) rfl (n := 1) rfl ?_
  refine o_istoreN X0 hx (hb hby d_prog_12_method_6_code_1) (Ls' := #[.val (.ref a1), .val (.ref q), .val (.ref r), .val (.int (0 : Int32)), .unset, .unset, .unset, .unset]) rfl (n := 2) rfl ?_
  have lp1 : ∀ (k i : Nat) (T_ : State) (h_ : Heap) (Lc : List Loc), i + k = C.ts.length → Stand p l e (({ frames := 0, cells := 0, slots := 0, locals := 0 } : Room)) s m #[(.ref a1), (.ref q), (.ref r)] below meth c T_ Lc 0 0 → T_.heap = h_ → Fr n0 Lc → n0 ≤ h_.size → Keep h0 h_ [r] → o_L Z h_ n0 a1 A C → Arv Z h_ q k1 .long 2 [.long m0, .long m1] (.long 0) → Arv Z h_ r k2 .long (n32 u) ((o_z Lr i).map Value.long) (.long 0) → Goes p e below s (fun v h L => v = some (.int (o_pr C m0 m1)) ∧ Fr n0 L ∧ Keep h0 h [r] ∧ Arv Z h r k2 .long (n32 u) ((o_pk C Lr m0 m1).map Value.long) (.long 0)) (({ frames := 0, cells := 0, slots := 0, locals := 0 } : Room)).cells (({ frames := 0, cells := 0, slots := 0, locals := 0 } : Room)).slots (T_.setTop (mkF m 2 #[.val (.ref a1), .val (.ref q), .val (.ref r), .val (.int (n32 i)), .unset, .unset, .unset, .unset] [])) := by
    intro k
    induction k with
    | zero =>
      intro i T_ h_ Lc hik X_ e_ N_ zz_ K_ pL_ pV_ pW_
      refine o_iloadN X_ hx (hb hby d_prog_12_method_6_code_2) (v := (n32 i)) rfl (n := 3) rfl ?_
      have hi : i = C.ts.length := hik
      refine o_aloadN X_ hx (hb hby d_prog_12_method_6_code_3) (v := (.ref a1)) rfl rfl (n := 4) rfl ?_
      refine o_getfield X_ hx hZ hown (host := "") (Or.inl (hw _ (List.mem_of_getElem? (i := 38) rfl))) Via.refl e_ pL_.f_length (hb hby d_prog_12_method_6_code_4) (n := 7) rfl ?_
      intro T2 X2 e2
      refine o_icmpY X2 hx (hb hby d_prog_12_method_6_code_7) (XT.ii_ge_t (o_ltF (Nat.le_of_eq hi.symm) (hi ▸ bT))) (by decide) (n := 20) (by decide) ?_
      obtain rfl : i = C.ts.length := hi
      show Goes p e below s _ _ _ (T2.setTop (mkF m 20 #[.val (.ref a1), .val (.ref q), .val (.ref r), .val (.int (n32 C.ts.length)), .unset, .unset, .unset, .unset] []))
      refine o_lconst X2 hx (hb hby d_prog_12_method_6_code_20) (v := (0 : Int64)) rfl (n := 21) rfl ?_
      refine o_lstoreN X2 hx (hb hby d_prog_12_method_6_code_21) (Ls' := #[.val (.ref a1), .val (.ref q), .val (.ref r), .val (.long (0 : Int64)), .second, .unset, .unset, .unset]) rfl (n := 22) rfl ?_
      refine o_iconst X2 hx (hb hby d_prog_12_method_6_code_22) (v := (0 : Int32)) rfl (n := 23) rfl ?_
      refine o_istore X2 hx (hb hby d_prog_12_method_6_code_23) (Ls' := #[.val (.ref a1), .val (.ref q), .val (.ref r), .val (.long (0 : Int64)), .second, .val (.int (0 : Int32)), .unset, .unset]) rfl (n := 25) rfl ?_
      refine o_iload X2 hx (hb hby d_prog_12_method_6_code_25) (v := (0 : Int32)) rfl (n := 27) rfl ?_
      refine o_aloadN X2 hx (hb hby d_prog_12_method_6_code_27) (v := (.ref a1)) rfl rfl (n := 28) rfl ?_
      refine o_getfield X2 hx hZ hown (host := "") (Or.inl (hw _ (List.mem_of_getElem? (i := 21) rfl))) Via.refl e2 pL_.f_limits (hb hby d_prog_12_method_6_code_28) (n := 31) rfl ?_
      intro T3 X3 e3
      refine o_arraylength X3 hx hZ e3 pL_.v_limits (hb hby d_prog_12_method_6_code_31) (n := 32) rfl ?_
      refine o_icmpN X3 hx (hb hby d_prog_12_method_6_code_32) (XT.ii_ge_f (by decide)) (n := 35) rfl ?_
      refine o_aloadN X3 hx (hb hby d_prog_12_method_6_code_35) (v := (.ref q)) rfl rfl (n := 36) rfl ?_
      refine o_iload X3 hx (hb hby d_prog_12_method_6_code_36) (v := (0 : Int32)) rfl (n := 38) rfl ?_
      refine o_laload X3 hx hZ e3 pV_ (0) (by decide) (by decide) (v := (.long m0)) rfl (hb hby d_prog_12_method_6_code_38) (n := 39) rfl ?_
      refine o_lconst X3 hx (hb hby d_prog_12_method_6_code_39) (v := (1 : Int64)) rfl (n := 40) rfl ?_
      refine o_ladd X3 hx (hb hby d_prog_12_method_6_code_40) (v := (m0 + (1 : Int64))) rfl (n := 41) rfl ?_
      refine o_lstore X3 hx (hb hby d_prog_12_method_6_code_41) (Ls' := #[.val (.ref a1), .val (.ref q), .val (.ref r), .val (.long (0 : Int64)), .second, .val (.int (0 : Int32)), .val (.long (m0 + (1 : Int64))), .second]) rfl (n := 43) rfl ?_
      refine o_lloadN X3 hx (hb hby d_prog_12_method_6_code_43) (v := (0 : Int64)) rfl (n := 44) rfl ?_
      refine o_lload X3 hx (hb hby d_prog_12_method_6_code_44) (v := (m0 + (1 : Int64))) rfl (n := 46) rfl ?_
      refine o_aloadN X3 hx (hb hby d_prog_12_method_6_code_46) (v := (.ref a1)) rfl rfl (n := 47) rfl ?_
      refine o_getfield X3 hx hZ hown (host := "") (Or.inl (hw _ (List.mem_of_getElem? (i := 21) rfl))) Via.refl e3 pL_.f_limits (hb hby d_prog_12_method_6_code_47) (n := 50) rfl ?_
      intro T4 X4 e4
      refine o_iload X4 hx (hb hby d_prog_12_method_6_code_50) (v := (0 : Int32)) rfl (n := 52) rfl ?_
      refine o_laload X4 hx hZ e4 pL_.v_limits (0) (by decide) (by decide) (v := (.long (o_lim C.b0))) rfl (hb hby d_prog_12_method_6_code_52) (n := 53) rfl ?_
      refine o_ldc2_w X4 hx hZ (v := (-1 : Int64)) hown (hw _ (List.mem_of_getElem? (i := 37) rfl)) (hb hby d_prog_12_method_6_code_53) (n := 56) rfl ?_
      refine o_lxor X4 hx (hb hby d_prog_12_method_6_code_56) (v := ((o_lim C.b0) ^^^ (-1 : Int64))) rfl (n := 57) rfl ?_
      refine o_land X4 hx (hb hby d_prog_12_method_6_code_57) (v := ((m0 + (1 : Int64)) &&& ((o_lim C.b0) ^^^ (-1 : Int64)))) rfl (n := 58) rfl ?_
      refine o_lor X4 hx (hb hby d_prog_12_method_6_code_58) (v := (o_by1 C m0)) rfl (n := 59) rfl ?_
      refine o_lstoreN X4 hx (hb hby d_prog_12_method_6_code_59) (Ls' := #[.val (.ref a1), .val (.ref q), .val (.ref r), .val (.long (o_by1 C m0)), .second, .val (.int (0 : Int32)), .val (.long (m0 + (1 : Int64))), .second]) rfl (n := 60) rfl ?_
      refine o_aloadN X4 hx (hb hby d_prog_12_method_6_code_60) (v := (.ref r)) rfl rfl (n := 61) rfl ?_
      refine o_aloadN X4 hx (hb hby d_prog_12_method_6_code_61) (v := (.ref a1)) rfl rfl (n := 62) rfl ?_
      refine o_getfield X4 hx hZ hown (host := "") (Or.inl (hw _ (List.mem_of_getElem? (i := 29) rfl))) Via.refl e4 pL_.f_words (hb hby d_prog_12_method_6_code_62) (n := 65) rfl ?_
      intro T5 X5 e5
      refine o_iload X5 hx (hb hby d_prog_12_method_6_code_65) (v := (0 : Int32)) rfl (n := 67) rfl ?_
      refine o_iaload X5 hx hZ e5 pL_.v_words (0) (by decide) (hix _ (by decide)) (v := (.int (n32 0))) (by rw [hP]; rfl) (hb hby d_prog_12_method_6_code_67) (n := 68) rfl ?_
      refine o_dup2 X5 hx (hb hby d_prog_12_method_6_code_68) rfl rfl (n := 69) rfl ?_
      refine o_laload X5 hx hZ e5 pW_ (0) (o_nt (by decide)) (o_ix hu0 bU) (v := (.long ((o_z Lr C.ts.length).getD 0 0))) (o_lgd _ _) (hb hby d_prog_12_method_6_code_69) (n := 70) rfl ?_
      refine o_lload X5 hx (hb hby d_prog_12_method_6_code_70) (v := (m0 + (1 : Int64))) rfl (n := 72) rfl ?_
      refine o_aloadN X5 hx (hb hby d_prog_12_method_6_code_72) (v := (.ref a1)) rfl rfl (n := 73) rfl ?_
      refine o_getfield X5 hx hZ hown (host := "") (Or.inl (hw _ (List.mem_of_getElem? (i := 27) rfl))) Via.refl e5 pL_.f_masks (hb hby d_prog_12_method_6_code_73) (n := 76) rfl ?_
      intro T6 X6 e6
      refine o_iload X6 hx (hb hby d_prog_12_method_6_code_76) (v := (0 : Int32)) rfl (n := 78) rfl ?_
      refine o_laload X6 hx hZ e6 pL_.v_masks (0) (by decide) (hix _ (by decide)) (v := (.long (o_mk (n32 1)))) (by rw [hP]; rfl) (hb hby d_prog_12_method_6_code_78) (n := 79) rfl ?_
      refine o_land X6 hx (hb hby d_prog_12_method_6_code_79) (v := (o_fv (m0 + (1 : Int64)) o_q0)) (o_fvz rfl rfl _) (n := 80) rfl ?_
      refine o_aloadN X6 hx (hb hby d_prog_12_method_6_code_80) (v := (.ref a1)) rfl rfl (n := 81) rfl ?_
      refine o_getfield X6 hx hZ hown (host := "") (Or.inl (hw _ (List.mem_of_getElem? (i := 31) rfl))) Via.refl e6 pL_.f_shifts (hb hby d_prog_12_method_6_code_81) (n := 84) rfl ?_
      intro T7 X7 e7
      refine o_iload X7 hx (hb hby d_prog_12_method_6_code_84) (v := (0 : Int32)) rfl (n := 86) rfl ?_
      refine o_iaload X7 hx hZ e7 pL_.v_shifts (0) (by decide) (hix _ (by decide)) (v := (.int (n32 0))) (by rw [hP]; rfl) (hb hby d_prog_12_method_6_code_86) (n := 87) rfl ?_
      refine o_lshl X7 hx (hb hby d_prog_12_method_6_code_87) (v := (o_shl (o_fv (m0 + (1 : Int64)) o_q0) (n32 0))) rfl (n := 88) rfl ?_
      refine o_lor X7 hx (hb hby d_prog_12_method_6_code_88) (v := (((o_z Lr C.ts.length).getD 0 0) ||| (o_shl (o_fv (m0 + (1 : Int64)) o_q0) (n32 0)))) rfl (n := 89) rfl ?_
      refine o_lastore X7 hx hZ e7 pW_ (0) (o_nt (by decide)) (o_ix hu0 bU) (by rw [List.length_map, o_zlen, hl]; exact hu0) (w := (.long (((o_z Lr C.ts.length).getD 0 0) ||| (o_shl (o_fv (m0 + (1 : Int64)) o_q0) (n32 0))))) rfl (vs' := ((o_ins (o_z Lr C.ts.length) o_q0 (o_fv (m0 + (1 : Int64)) o_q0)).map Value.long)) (o_lset _ _ _) (hb hby d_prog_12_method_6_code_89) (n := 90) rfl ?_
      intro T8 h8 X8 e8 W8 V8
      have L9 := pL_.other W8 nir
      have zz8 : n0 ≤ h8.size := Nat.le_trans zz_ (Nat.le_of_eq W8.size.symm)
      have N11 := Fr.snoc X8 N_ pg
      have K12 : Keep h0 h8 [r] := K_.wr W8 (Or.inl (List.mem_of_getElem? (i := 0) rfl))
      refine o_iinc X8 hx (hb hby d_prog_12_method_6_code_90) (w := (1 : Int32)) rfl (by decide) (Ls' := #[.val (.ref a1), .val (.ref q), .val (.ref r), .val (.long (o_by1 C m0)), .second, .val (.int (1 : Int32)), .val (.long (m0 + (1 : Int64))), .second]) rfl (n := 93) rfl ?_
      refine o_goto X8 hx (hb hby d_prog_12_method_6_code_93) (by decide) (n := 25) (by decide) ?_
      refine o_iload X8 hx (hb hby d_prog_12_method_6_code_25) (v := (1 : Int32)) rfl (n := 27) rfl ?_
      refine o_aloadN X8 hx (hb hby d_prog_12_method_6_code_27) (v := (.ref a1)) rfl rfl (n := 28) rfl ?_
      refine o_getfield X8 hx hZ hown (host := "") (Or.inl (hw _ (List.mem_of_getElem? (i := 21) rfl))) Via.refl e8 L9.f_limits (hb hby d_prog_12_method_6_code_28) (n := 31) rfl ?_
      intro T13 X13 e13
      refine o_arraylength X13 hx hZ e13 L9.v_limits (hb hby d_prog_12_method_6_code_31) (n := 32) rfl ?_
      refine o_icmpN X13 hx (hb hby d_prog_12_method_6_code_32) (XT.ii_ge_f (by decide)) (n := 35) rfl ?_
      refine o_aloadN X13 hx (hb hby d_prog_12_method_6_code_35) (v := (.ref q)) rfl rfl (n := 36) rfl ?_
      refine o_iload X13 hx (hb hby d_prog_12_method_6_code_36) (v := (1 : Int32)) rfl (n := 38) rfl ?_
      refine o_laload X13 hx hZ e13 (pV_.other W8 pne) (1) (by decide) (by decide) (v := (.long m1)) rfl (hb hby d_prog_12_method_6_code_38) (n := 39) rfl ?_
      refine o_lconst X13 hx (hb hby d_prog_12_method_6_code_39) (v := (1 : Int64)) rfl (n := 40) rfl ?_
      refine o_ladd X13 hx (hb hby d_prog_12_method_6_code_40) (v := (m1 + (1 : Int64))) rfl (n := 41) rfl ?_
      refine o_lstore X13 hx (hb hby d_prog_12_method_6_code_41) (Ls' := #[.val (.ref a1), .val (.ref q), .val (.ref r), .val (.long (o_by1 C m0)), .second, .val (.int (1 : Int32)), .val (.long (m1 + (1 : Int64))), .second]) rfl (n := 43) rfl ?_
      refine o_lloadN X13 hx (hb hby d_prog_12_method_6_code_43) (v := (o_by1 C m0)) rfl (n := 44) rfl ?_
      refine o_lload X13 hx (hb hby d_prog_12_method_6_code_44) (v := (m1 + (1 : Int64))) rfl (n := 46) rfl ?_
      refine o_aloadN X13 hx (hb hby d_prog_12_method_6_code_46) (v := (.ref a1)) rfl rfl (n := 47) rfl ?_
      refine o_getfield X13 hx hZ hown (host := "") (Or.inl (hw _ (List.mem_of_getElem? (i := 21) rfl))) Via.refl e13 L9.f_limits (hb hby d_prog_12_method_6_code_47) (n := 50) rfl ?_
      intro T14 X14 e14
      refine o_iload X14 hx (hb hby d_prog_12_method_6_code_50) (v := (1 : Int32)) rfl (n := 52) rfl ?_
      refine o_laload X14 hx hZ e14 L9.v_limits (1) (by decide) (by decide) (v := (.long (o_lim C.b1))) rfl (hb hby d_prog_12_method_6_code_52) (n := 53) rfl ?_
      refine o_ldc2_w X14 hx hZ (v := (-1 : Int64)) hown (hw _ (List.mem_of_getElem? (i := 37) rfl)) (hb hby d_prog_12_method_6_code_53) (n := 56) rfl ?_
      refine o_lxor X14 hx (hb hby d_prog_12_method_6_code_56) (v := ((o_lim C.b1) ^^^ (-1 : Int64))) rfl (n := 57) rfl ?_
      refine o_land X14 hx (hb hby d_prog_12_method_6_code_57) (v := ((m1 + (1 : Int64)) &&& ((o_lim C.b1) ^^^ (-1 : Int64)))) rfl (n := 58) rfl ?_
      refine o_lor X14 hx (hb hby d_prog_12_method_6_code_58) (v := (o_by C m0 m1)) rfl (n := 59) rfl ?_
      refine o_lstoreN X14 hx (hb hby d_prog_12_method_6_code_59) (Ls' := #[.val (.ref a1), .val (.ref q), .val (.ref r), .val (.long (o_by C m0 m1)), .second, .val (.int (1 : Int32)), .val (.long (m1 + (1 : Int64))), .second]) rfl (n := 60) rfl ?_
      refine o_aloadN X14 hx (hb hby d_prog_12_method_6_code_60) (v := (.ref r)) rfl rfl (n := 61) rfl ?_
      refine o_aloadN X14 hx (hb hby d_prog_12_method_6_code_61) (v := (.ref a1)) rfl rfl (n := 62) rfl ?_
      refine o_getfield X14 hx hZ hown (host := "") (Or.inl (hw _ (List.mem_of_getElem? (i := 29) rfl))) Via.refl e14 L9.f_words (hb hby d_prog_12_method_6_code_62) (n := 65) rfl ?_
      intro T15 X15 e15
      refine o_iload X15 hx (hb hby d_prog_12_method_6_code_65) (v := (1 : Int32)) rfl (n := 67) rfl ?_
      refine o_iaload X15 hx hZ e15 L9.v_words (1) (by decide) (hix _ (by decide)) (v := (.int (n32 0))) (by rw [hP]; rfl) (hb hby d_prog_12_method_6_code_67) (n := 68) rfl ?_
      refine o_dup2 X15 hx (hb hby d_prog_12_method_6_code_68) rfl rfl (n := 69) rfl ?_
      refine o_laload X15 hx hZ e15 V8 (0) (o_nt (by decide)) (o_ix hu0 bU) (v := (.long ((o_ins (o_z Lr C.ts.length) o_q0 (o_fv (m0 + (1 : Int64)) o_q0)).getD 0 0))) (o_lgd _ _) (hb hby d_prog_12_method_6_code_69) (n := 70) rfl ?_
      refine o_lload X15 hx (hb hby d_prog_12_method_6_code_70) (v := (m1 + (1 : Int64))) rfl (n := 72) rfl ?_
      refine o_aloadN X15 hx (hb hby d_prog_12_method_6_code_72) (v := (.ref a1)) rfl rfl (n := 73) rfl ?_
      refine o_getfield X15 hx hZ hown (host := "") (Or.inl (hw _ (List.mem_of_getElem? (i := 27) rfl))) Via.refl e15 L9.f_masks (hb hby d_prog_12_method_6_code_73) (n := 76) rfl ?_
      intro T16 X16 e16
      refine o_iload X16 hx (hb hby d_prog_12_method_6_code_76) (v := (1 : Int32)) rfl (n := 78) rfl ?_
      refine o_laload X16 hx hZ e16 L9.v_masks (1) (by decide) (hix _ (by decide)) (v := (.long (o_mk (n32 1)))) (by rw [hP]; rfl) (hb hby d_prog_12_method_6_code_78) (n := 79) rfl ?_
      refine o_land X16 hx (hb hby d_prog_12_method_6_code_79) (v := (o_fv (m1 + (1 : Int64)) o_q1)) (o_fvz rfl rfl _) (n := 80) rfl ?_
      refine o_aloadN X16 hx (hb hby d_prog_12_method_6_code_80) (v := (.ref a1)) rfl rfl (n := 81) rfl ?_
      refine o_getfield X16 hx hZ hown (host := "") (Or.inl (hw _ (List.mem_of_getElem? (i := 31) rfl))) Via.refl e16 L9.f_shifts (hb hby d_prog_12_method_6_code_81) (n := 84) rfl ?_
      intro T17 X17 e17
      refine o_iload X17 hx (hb hby d_prog_12_method_6_code_84) (v := (1 : Int32)) rfl (n := 86) rfl ?_
      refine o_iaload X17 hx hZ e17 L9.v_shifts (1) (by decide) (hix _ (by decide)) (v := (.int (n32 1))) (by rw [hP]; rfl) (hb hby d_prog_12_method_6_code_86) (n := 87) rfl ?_
      refine o_lshl X17 hx (hb hby d_prog_12_method_6_code_87) (v := (o_shl (o_fv (m1 + (1 : Int64)) o_q1) (n32 1))) rfl (n := 88) rfl ?_
      refine o_lor X17 hx (hb hby d_prog_12_method_6_code_88) (v := (((o_ins (o_z Lr C.ts.length) o_q0 (o_fv (m0 + (1 : Int64)) o_q0)).getD 0 0) ||| (o_shl (o_fv (m1 + (1 : Int64)) o_q1) (n32 1)))) rfl (n := 89) rfl ?_
      refine o_lastore X17 hx hZ e17 V8 (0) (o_nt (by decide)) (o_ix hu0 bU) (by rw [List.length_map, o_inslen, o_zlen, hl]; exact hu0) (w := (.long (((o_ins (o_z Lr C.ts.length) o_q0 (o_fv (m0 + (1 : Int64)) o_q0)).getD 0 0) ||| (o_shl (o_fv (m1 + (1 : Int64)) o_q1) (n32 1))))) rfl (vs' := ((o_ins (o_ins (o_z Lr C.ts.length) o_q0 (o_fv (m0 + (1 : Int64)) o_q0)) o_q1 (o_fv (m1 + (1 : Int64)) o_q1)).map Value.long)) (o_lset _ _ _) (hb hby d_prog_12_method_6_code_89) (n := 90) rfl ?_
      intro T18 h18 X18 e18 W18 V18
      have L19 := L9.other W18 nir
      have zz18 : n0 ≤ h18.size := Nat.le_trans zz8 (Nat.le_of_eq W18.size.symm)
      have N21 := Fr.snoc X18 N11 pg
      have K22 : Keep h0 h18 [r] := K12.wr W18 (Or.inl (List.mem_of_getElem? (i := 0) rfl))
      refine o_iinc X18 hx (hb hby d_prog_12_method_6_code_90) (w := (2 : Int32)) rfl (by decide) (Ls' := #[.val (.ref a1), .val (.ref q), .val (.ref r), .val (.long (o_by C m0 m1)), .second, .val (.int (2 : Int32)), .val (.long (m1 + (1 : Int64))), .second]) rfl (n := 93) rfl ?_
      refine o_goto X18 hx (hb hby d_prog_12_method_6_code_93) (by decide) (n := 25) (by decide) ?_
      refine o_iload X18 hx (hb hby d_prog_12_method_6_code_25) (v := (2 : Int32)) rfl (n := 27) rfl ?_
      refine o_aloadN X18 hx (hb hby d_prog_12_method_6_code_27) (v := (.ref a1)) rfl rfl (n := 28) rfl ?_
      refine o_getfield X18 hx hZ hown (host := "") (Or.inl (hw _ (List.mem_of_getElem? (i := 21) rfl))) Via.refl e18 L19.f_limits (hb hby d_prog_12_method_6_code_28) (n := 31) rfl ?_
      intro T23 X23 e23
      refine o_arraylength X23 hx hZ e23 L19.v_limits (hb hby d_prog_12_method_6_code_31) (n := 32) rfl ?_
      refine o_icmpY X23 hx (hb hby d_prog_12_method_6_code_32) (XT.ii_ge_t (by decide)) (by decide) (n := 96) (by decide) ?_
      refine o_aloadN X23 hx (hb hby d_prog_12_method_6_code_96) (v := (.ref a1)) rfl rfl (n := 97) rfl ?_
      refine o_getfield X23 hx hZ hown (host := "") (Or.inl (hw _ (List.mem_of_getElem? (i := 21) rfl))) Via.refl e23 L19.f_limits (hb hby d_prog_12_method_6_code_97) (n := 100) rfl ?_
      intro T24 X24 e24
      refine o_arraylength X24 hx hZ e24 L19.v_limits (hb hby d_prog_12_method_6_code_100) (n := 101) rfl ?_
      refine o_istore X24 hx (hb hby d_prog_12_method_6_code_101) (Ls' := #[.val (.ref a1), .val (.ref q), .val (.ref r), .val (.long (o_by C m0 m1)), .second, .val (.int (2 : Int32)), .val (.long (m1 + (1 : Int64))), .second]) rfl (n := 103) rfl ?_
      have lp25 : ∀ (kk j : Nat) (T_ : State) (h_ : Heap) (Lc : List Loc) (cx : Int64), j + kk = C.P.length → Stand p l e (({ frames := 0, cells := 0, slots := 0, locals := 0 } : Room)) s m #[(.ref a1), (.ref q), (.ref r)] below meth c T_ Lc 0 0 → T_.heap = h_ → Fr n0 Lc → n0 ≤ h_.size → Keep h0 h_ [r] → o_L Z h_ n0 a1 A C → Arv Z h_ q k1 .long 2 [.long m0, .long m1] (.long 0) → Arv Z h_ r k2 .long (n32 u) ((o_pkP (C.P.take j) (o_z Lr C.ts.length) m0 m1).map Value.long) (.long 0) → Goes p e below s (fun v h L => v = some (.int (o_pr C m0 m1)) ∧ Fr n0 L ∧ Keep h0 h [r] ∧ Arv Z h r k2 .long (n32 u) ((o_pk C Lr m0 m1).map Value.long) (.long 0)) (({ frames := 0, cells := 0, slots := 0, locals := 0 } : Room)).cells (({ frames := 0, cells := 0, slots := 0, locals := 0 } : Room)).slots (T_.setTop (mkF m 103 #[.val (.ref a1), .val (.ref q), .val (.ref r), .val (.long (o_by C m0 m1)), .second, .val (.int (n32 j)), .val (.long cx), .second] [])) := by
        intro kk
        induction kk with
        | zero =>
          intro j T_ h_ Lc cx hik X_ e_ N_ zz_ K_ pL_ pV_ pW_
          refine o_iload X_ hx (hb hby d_prog_12_method_6_code_103) (v := (n32 j)) rfl (n := 105) rfl ?_
          have hj : j = C.P.length := hik
          refine o_aloadN X_ hx (hb hby d_prog_12_method_6_code_105) (v := (.ref a1)) rfl rfl (n := 106) rfl ?_
          refine o_getfield X_ hx hZ hown (host := "") (Or.inl (hw _ (List.mem_of_getElem? (i := 48) rfl))) Via.refl e_ pL_.f_pieces (hb hby d_prog_12_method_6_code_106) (n := 109) rfl ?_
          intro T26 X26 e26
          refine o_icmpY X26 hx (hb hby d_prog_12_method_6_code_109) (XT.ii_ge_t (o_ltF (Nat.le_of_eq hj.symm) (hj ▸ bP))) (by decide) (n := 169) (by decide) ?_
          refine o_lloadN X26 hx (hb hby d_prog_12_method_6_code_169) (v := (o_by C m0 m1)) rfl (n := 170) rfl ?_
          refine o_lconst X26 hx (hb hby d_prog_12_method_6_code_170) (v := (0 : Int64)) rfl (n := 171) rfl ?_
          refine o_lcmp X26 hx (hb hby d_prog_12_method_6_code_171) (n := 172) rfl ?_
          by_cases hc172 : (o_by C m0 m1) = (0 : Int64)
          · refine o_ifN X26 hx (hb hby d_prog_12_method_6_code_172) (XT.ll_ne_f hc172) (n := 175) rfl ?_
            refine o_iconst X26 hx (hb hby d_prog_12_method_6_code_175) (v := (1 : Int32)) rfl (n := 176) rfl ?_
            refine o_goto X26 hx (hb hby d_prog_12_method_6_code_176) (by decide) (n := 180) (by decide) ?_
            have hWW : Arv Z h_ r k2 .long (n32 u) ((o_pk C Lr m0 m1).map Value.long) (.long 0) := by rw [o_pk, ← (show C.P.take j = C.P from hj ▸ List.take_length)]; exact pW_
            exact o_nreturn X26 hx hret hlk (t := .boolean) (by simp) (hb hby d_prog_12_method_6_code_180) (by decide) (by decide) e26 ⟨by rw [o_pr, if_pos hc172]; rfl, N_, K_, hWW⟩
          · refine o_ifY X26 hx (hb hby d_prog_12_method_6_code_172) (XT.ll_ne_t hc172) (by decide) (n := 179) (by decide) ?_
            refine o_iconst X26 hx (hb hby d_prog_12_method_6_code_179) (v := (0 : Int32)) rfl (n := 180) rfl ?_
            have hWW : Arv Z h_ r k2 .long (n32 u) ((o_pk C Lr m0 m1).map Value.long) (.long 0) := by rw [o_pk, ← (show C.P.take j = C.P from hj ▸ List.take_length)]; exact pW_
            exact o_nreturn X26 hx hret hlk (t := .boolean) (by simp) (hb hby d_prog_12_method_6_code_180) (by decide) (by decide) e26 ⟨by rw [o_pr, if_neg hc172]; rfl, N_, K_, hWW⟩
        | succ kk ih =>
          intro j T_ h_ Lc cx hik X_ e_ N_ zz_ K_ pL_ pV_ pW_
          refine o_iload X_ hx (hb hby d_prog_12_method_6_code_103) (v := (n32 j)) rfl (n := 105) rfl ?_
          have hj : j < C.P.length := Nat.lt_of_lt_of_eq (Nat.lt_add_of_pos_right (Nat.succ_pos kk)) hik
          obtain ⟨qj, hqe, hqm, hq2, hqw⟩ := o_piece O hj
          have hqu := Nat.lt_of_lt_of_le hqw hu
          refine o_aloadN X_ hx (hb hby d_prog_12_method_6_code_105) (v := (.ref a1)) rfl rfl (n := 106) rfl ?_
          refine o_getfield X_ hx hZ hown (host := "") (Or.inl (hw _ (List.mem_of_getElem? (i := 48) rfl))) Via.refl e_ pL_.f_pieces (hb hby d_prog_12_method_6_code_106) (n := 109) rfl ?_
          intro T27 X27 e27
          refine o_icmpN X27 hx (hb hby d_prog_12_method_6_code_109) (XT.ii_ge_f (o_ltT hj bP)) (n := 112) rfl ?_
          refine o_aloadN X27 hx (hb hby d_prog_12_method_6_code_112) (v := (.ref q)) rfl rfl (n := 113) rfl ?_
          refine o_aloadN X27 hx (hb hby d_prog_12_method_6_code_113) (v := (.ref a1)) rfl rfl (n := 114) rfl ?_
          refine o_getfield X27 hx hZ hown (host := "") (Or.inl (hw _ (List.mem_of_getElem? (i := 23) rfl))) Via.refl e27 pL_.f_places (hb hby d_prog_12_method_6_code_114) (n := 117) rfl ?_
          intro T28 X28 e28
          refine o_iload X28 hx (hb hby d_prog_12_method_6_code_117) (v := (n32 j)) rfl (n := 119) rfl ?_
          refine o_iaload X28 hx hZ e28 pL_.v_places (j) (o_nt (Nat.lt_trans hj bP)) (o_ix (Nat.lt_of_lt_of_le hj lP) bcP) (v := (.int (n32 qj.pl))) (o_pgd (fun q : o_P => (.int (n32 q.pl) : Value)) _ hj hqe) (hb hby d_prog_12_method_6_code_119) (n := 120) rfl ?_
          refine o_laload X28 hx hZ e28 pV_ (qj.pl) (o_nt (Nat.lt_trans hq2 (by decide))) (o_ix hq2 (by decide)) (v := (.long (if qj.pl = 0 then m0 else m1))) (o_m2v hq2) (hb hby d_prog_12_method_6_code_120) (n := 121) rfl ?_
          refine o_lconst X28 hx (hb hby d_prog_12_method_6_code_121) (v := (1 : Int64)) rfl (n := 122) rfl ?_
          refine o_ladd X28 hx (hb hby d_prog_12_method_6_code_122) (v := (o_cd m0 m1 qj.pl)) rfl (n := 123) rfl ?_
          refine o_lstore X28 hx (hb hby d_prog_12_method_6_code_123) (Ls' := #[.val (.ref a1), .val (.ref q), .val (.ref r), .val (.long (o_by C m0 m1)), .second, .val (.int (n32 j)), .val (.long (o_cd m0 m1 qj.pl)), .second]) rfl (n := 125) rfl ?_
          refine o_aloadN X28 hx (hb hby d_prog_12_method_6_code_125) (v := (.ref r)) rfl rfl (n := 126) rfl ?_
          refine o_aloadN X28 hx (hb hby d_prog_12_method_6_code_126) (v := (.ref a1)) rfl rfl (n := 127) rfl ?_
          refine o_getfield X28 hx hZ hown (host := "") (Or.inl (hw _ (List.mem_of_getElem? (i := 29) rfl))) Via.refl e28 pL_.f_words (hb hby d_prog_12_method_6_code_127) (n := 130) rfl ?_
          intro T29 X29 e29
          refine o_iload X29 hx (hb hby d_prog_12_method_6_code_130) (v := (n32 j)) rfl (n := 132) rfl ?_
          refine o_iaload X29 hx hZ e29 pL_.v_words (j) (o_nt (Nat.lt_trans hj bP)) (o_ix (Nat.lt_of_lt_of_le hj lP) bcP) (v := (.int (n32 qj.wo))) (o_pgd (fun q : o_P => (.int (n32 q.wo) : Value)) _ hj hqe) (hb hby d_prog_12_method_6_code_132) (n := 133) rfl ?_
          refine o_dup2 X29 hx (hb hby d_prog_12_method_6_code_133) rfl rfl (n := 134) rfl ?_
          refine o_laload X29 hx hZ e29 pW_ (qj.wo) (o_nt (Nat.lt_trans hqu bU)) (o_ix hqu bU) (v := (.long ((o_pkP (C.P.take j) (o_z Lr C.ts.length) m0 m1).getD qj.wo 0))) (o_lgd _ _) (hb hby d_prog_12_method_6_code_134) (n := 135) rfl ?_
          refine o_lload X29 hx (hb hby d_prog_12_method_6_code_135) (v := (o_cd m0 m1 qj.pl)) rfl (n := 137) rfl ?_
          refine o_aloadN X29 hx (hb hby d_prog_12_method_6_code_137) (v := (.ref a1)) rfl rfl (n := 138) rfl ?_
          refine o_getfield X29 hx hZ hown (host := "") (Or.inl (hw _ (List.mem_of_getElem? (i := 25) rfl))) Via.refl e29 pL_.f_lows (hb hby d_prog_12_method_6_code_138) (n := 141) rfl ?_
          intro T30 X30 e30
          refine o_iload X30 hx (hb hby d_prog_12_method_6_code_141) (v := (n32 j)) rfl (n := 143) rfl ?_
          refine o_iaload X30 hx hZ e30 pL_.v_lows (j) (o_nt (Nat.lt_trans hj bP)) (o_ix (Nat.lt_of_lt_of_le hj lP) bcP) (v := (.int (n32 qj.lo))) (o_pgd (fun q : o_P => (.int (n32 q.lo) : Value)) _ hj hqe) (hb hby d_prog_12_method_6_code_143) (n := 144) rfl ?_
          refine o_lushr X30 hx (hb hby d_prog_12_method_6_code_144) (v := (o_shr (o_cd m0 m1 qj.pl) (n32 qj.lo))) rfl (n := 145) rfl ?_
          refine o_aloadN X30 hx (hb hby d_prog_12_method_6_code_145) (v := (.ref a1)) rfl rfl (n := 146) rfl ?_
          refine o_getfield X30 hx hZ hown (host := "") (Or.inl (hw _ (List.mem_of_getElem? (i := 27) rfl))) Via.refl e30 pL_.f_masks (hb hby d_prog_12_method_6_code_146) (n := 149) rfl ?_
          intro T31 X31 e31
          refine o_iload X31 hx (hb hby d_prog_12_method_6_code_149) (v := (n32 j)) rfl (n := 151) rfl ?_
          refine o_laload X31 hx hZ e31 pL_.v_masks (j) (o_nt (Nat.lt_trans hj bP)) (o_ix (Nat.lt_of_lt_of_le hj lP) bcP) (v := (.long (o_mk (n32 qj.wd)))) (o_pgd (fun q : o_P => (.long (o_mk (n32 q.wd)) : Value)) _ hj hqe) (hb hby d_prog_12_method_6_code_151) (n := 152) rfl ?_
          refine o_land X31 hx (hb hby d_prog_12_method_6_code_152) (v := (o_fv (o_cd m0 m1 qj.pl) qj)) rfl (n := 153) rfl ?_
          refine o_aloadN X31 hx (hb hby d_prog_12_method_6_code_153) (v := (.ref a1)) rfl rfl (n := 154) rfl ?_
          refine o_getfield X31 hx hZ hown (host := "") (Or.inl (hw _ (List.mem_of_getElem? (i := 31) rfl))) Via.refl e31 pL_.f_shifts (hb hby d_prog_12_method_6_code_154) (n := 157) rfl ?_
          intro T32 X32 e32
          refine o_iload X32 hx (hb hby d_prog_12_method_6_code_157) (v := (n32 j)) rfl (n := 159) rfl ?_
          refine o_iaload X32 hx hZ e32 pL_.v_shifts (j) (o_nt (Nat.lt_trans hj bP)) (o_ix (Nat.lt_of_lt_of_le hj lP) bcP) (v := (.int (n32 qj.sh))) (o_pgd (fun q : o_P => (.int (n32 q.sh) : Value)) _ hj hqe) (hb hby d_prog_12_method_6_code_159) (n := 160) rfl ?_
          refine o_lshl X32 hx (hb hby d_prog_12_method_6_code_160) (v := (o_shl (o_fv (o_cd m0 m1 qj.pl) qj) (n32 qj.sh))) rfl (n := 161) rfl ?_
          refine o_lor X32 hx (hb hby d_prog_12_method_6_code_161) (v := (((o_pkP (C.P.take j) (o_z Lr C.ts.length) m0 m1).getD qj.wo 0) ||| (o_shl (o_fv (o_cd m0 m1 qj.pl) qj) (n32 qj.sh)))) rfl (n := 162) rfl ?_
          refine o_lastore X32 hx hZ e32 pW_ (qj.wo) (o_nt (Nat.lt_trans hqu bU)) (o_ix hqu bU) (by rw [List.length_map, o_pkPlen, o_zlen, hl]; exact hqu) (w := (.long (((o_pkP (C.P.take j) (o_z Lr C.ts.length) m0 m1).getD qj.wo 0) ||| (o_shl (o_fv (o_cd m0 m1 qj.pl) qj) (n32 qj.sh))))) rfl (vs' := ((o_pkP (C.P.take (j + 1)) (o_z Lr C.ts.length) m0 m1).map Value.long)) (o_pkS hj hqe _ _ _) (hb hby d_prog_12_method_6_code_162) (n := 163) rfl ?_
          intro T33 h33 X33 e33 W33 V33
          have L34 := pL_.other W33 nir
          have zz33 : n0 ≤ h33.size := Nat.le_trans zz_ (Nat.le_of_eq W33.size.symm)
          have N36 := Fr.snoc X33 N_ pg
          have K37 : Keep h0 h33 [r] := K_.wr W33 (Or.inl (List.mem_of_getElem? (i := 0) rfl))
          refine o_iinc X33 hx (hb hby d_prog_12_method_6_code_163) (w := (n32 (j + 1))) rfl (o_nadd j 1) (Ls' := #[.val (.ref a1), .val (.ref q), .val (.ref r), .val (.long (o_by C m0 m1)), .second, .val (.int (n32 (j + 1))), .val (.long (o_cd m0 m1 qj.pl)), .second]) rfl (n := 166) rfl ?_
          refine o_goto X33 hx (hb hby d_prog_12_method_6_code_166) (by decide) (n := 103) (by decide) ?_
          exact ih (j + 1) _ _ _ _ ((Nat.add_right_comm _ 1 _).trans hik) X33 e33 N36 zz33 K37 L34 (pV_.other W33 pne) V33
      exact lp25 _ 2 _ _ _ _ (Nat.add_sub_of_le h2l) X24 e24 N21 zz18 K22 L19 ((pV_.other W8 pne).other W18 pne) (by rw [o_pk2 hP]; exact V18)
    | succ k ih =>
      intro i T_ h_ Lc hik X_ e_ N_ zz_ K_ pL_ pV_ pW_
      refine o_iloadN X_ hx (hb hby d_prog_12_method_6_code_2) (v := (n32 i)) rfl (n := 3) rfl ?_
      have hi : i < C.ts.length := Nat.lt_of_lt_of_eq (Nat.lt_add_of_pos_right (Nat.succ_pos k)) hik
      refine o_aloadN X_ hx (hb hby d_prog_12_method_6_code_3) (v := (.ref a1)) rfl rfl (n := 4) rfl ?_
      refine o_getfield X_ hx hZ hown (host := "") (Or.inl (hw _ (List.mem_of_getElem? (i := 38) rfl))) Via.refl e_ pL_.f_length (hb hby d_prog_12_method_6_code_4) (n := 7) rfl ?_
      intro T38 X38 e38
      refine o_icmpN X38 hx (hb hby d_prog_12_method_6_code_7) (XT.ii_ge_f (o_ltT hi bT)) (n := 10) rfl ?_
      refine o_aloadN X38 hx (hb hby d_prog_12_method_6_code_10) (v := (.ref r)) rfl rfl (n := 11) rfl ?_
      refine o_iloadN X38 hx (hb hby d_prog_12_method_6_code_11) (v := (n32 i)) rfl (n := 12) rfl ?_
      refine o_lconst X38 hx (hb hby d_prog_12_method_6_code_12) (v := (0 : Int64)) rfl (n := 13) rfl ?_
      refine o_lastore X38 hx hZ e38 pW_ (i) (o_nt (Nat.lt_trans hi bT)) (o_ix (Nat.lt_of_lt_of_le hi hu) bU) (by rw [List.length_map, o_zlen, hl]; exact Nat.lt_of_lt_of_le hi hu) (w := (.long (0 : Int64))) rfl (vs' := ((o_z Lr (i + 1)).map Value.long)) (o_zS _ _) (hb hby d_prog_12_method_6_code_13) (n := 14) rfl ?_
      intro T39 h39 X39 e39 W39 V39
      have L40 := pL_.other W39 nir
      have zz39 : n0 ≤ h39.size := Nat.le_trans zz_ (Nat.le_of_eq W39.size.symm)
      have N42 := Fr.snoc X39 N_ pg
      have K43 : Keep h0 h39 [r] := K_.wr W39 (Or.inl (List.mem_of_getElem? (i := 0) rfl))
      refine o_iinc X39 hx (hb hby d_prog_12_method_6_code_14) (w := (n32 (i + 1))) rfl (o_nadd i 1) (Ls' := #[.val (.ref a1), .val (.ref q), .val (.ref r), .val (.int (n32 (i + 1))), .unset, .unset, .unset, .unset]) rfl (n := 17) rfl ?_
      refine o_goto X39 hx (hb hby d_prog_12_method_6_code_17) (by decide) (n := 2) (by decide) ?_
      exact ih (i + 1) _ _ _ ((Nat.add_right_comm _ 1 _).trans hik) X39 e39 N42 zz39 K43 L40 (pV_.other W39 pne) V39
  exact lp1 _ 0 _ _ _ (Nat.zero_add _) X0 e0 N0 Z0 (Keep.refl h0 [r]) pL pV pW
theorem d_method_2_code_98 : decode method_2_code 98 = .ok (.lload_n 0, 1) := by decide +kernel
theorem d_method_2_code_99 : decode method_2_code 99 = .ok (.lconst 0, 1) := by decide +kernel
theorem d_method_2_code_100 : decode method_2_code 100 = .ok (.lcmp, 1) := by decide +kernel
theorem d_method_2_code_101 : decode method_2_code 101 = .ok (.ifCond .eq 6, 3) := by decide +kernel
theorem d_method_2_code_107 : decode method_2_code 107 = .ok (.iload_n 2, 1) := by decide +kernel
theorem d_method_2_code_108 : decode method_2_code 108 = .ok (.ireturn, 1) := by decide +kernel
theorem d_method_2_code_104 : decode method_2_code 104 = .ok (.iinc 2 1, 3) := by decide +kernel
theorem d_method_2_code_83 : decode method_2_code 83 = .ok (.lload_n 0, 1) := by decide +kernel
theorem d_method_2_code_84 : decode method_2_code 84 = .ok (.iconst 1, 1) := by decide +kernel
theorem d_method_2_code_85 : decode method_2_code 85 = .ok (.lushr, 1) := by decide +kernel
theorem d_method_2_code_86 : decode method_2_code 86 = .ok (.lconst 0, 1) := by decide +kernel
theorem d_method_2_code_87 : decode method_2_code 87 = .ok (.lcmp, 1) := by decide +kernel
theorem d_method_2_code_88 : decode method_2_code 88 = .ok (.ifCond .eq 10, 3) := by decide +kernel
theorem d_method_2_code_91 : decode method_2_code 91 = .ok (.iinc 2 1, 3) := by decide +kernel
theorem d_method_2_code_94 : decode method_2_code 94 = .ok (.lload_n 0, 1) := by decide +kernel
theorem d_method_2_code_95 : decode method_2_code 95 = .ok (.iconst 1, 1) := by decide +kernel
theorem d_method_2_code_96 : decode method_2_code 96 = .ok (.lushr, 1) := by decide +kernel
theorem d_method_2_code_97 : decode method_2_code 97 = .ok (.lstore_n 0, 1) := by decide +kernel
theorem d_method_2_code_68 : decode method_2_code 68 = .ok (.lload_n 0, 1) := by decide +kernel
theorem d_method_2_code_69 : decode method_2_code 69 = .ok (.iconst 2, 1) := by decide +kernel
theorem d_method_2_code_70 : decode method_2_code 70 = .ok (.lushr, 1) := by decide +kernel
theorem d_method_2_code_71 : decode method_2_code 71 = .ok (.lconst 0, 1) := by decide +kernel
theorem d_method_2_code_72 : decode method_2_code 72 = .ok (.lcmp, 1) := by decide +kernel
theorem d_method_2_code_73 : decode method_2_code 73 = .ok (.ifCond .eq 10, 3) := by decide +kernel
theorem d_method_2_code_76 : decode method_2_code 76 = .ok (.iinc 2 2, 3) := by decide +kernel
theorem d_method_2_code_79 : decode method_2_code 79 = .ok (.lload_n 0, 1) := by decide +kernel
theorem d_method_2_code_80 : decode method_2_code 80 = .ok (.iconst 2, 1) := by decide +kernel
theorem d_method_2_code_81 : decode method_2_code 81 = .ok (.lushr, 1) := by decide +kernel
theorem d_method_2_code_82 : decode method_2_code 82 = .ok (.lstore_n 0, 1) := by decide +kernel
theorem d_method_2_code_53 : decode method_2_code 53 = .ok (.lload_n 0, 1) := by decide +kernel
theorem d_method_2_code_54 : decode method_2_code 54 = .ok (.iconst 4, 1) := by decide +kernel
theorem d_method_2_code_55 : decode method_2_code 55 = .ok (.lushr, 1) := by decide +kernel
theorem d_method_2_code_56 : decode method_2_code 56 = .ok (.lconst 0, 1) := by decide +kernel
theorem d_method_2_code_57 : decode method_2_code 57 = .ok (.lcmp, 1) := by decide +kernel
theorem d_method_2_code_58 : decode method_2_code 58 = .ok (.ifCond .eq 10, 3) := by decide +kernel
theorem d_method_2_code_61 : decode method_2_code 61 = .ok (.iinc 2 4, 3) := by decide +kernel
theorem d_method_2_code_64 : decode method_2_code 64 = .ok (.lload_n 0, 1) := by decide +kernel
theorem d_method_2_code_65 : decode method_2_code 65 = .ok (.iconst 4, 1) := by decide +kernel
theorem d_method_2_code_66 : decode method_2_code 66 = .ok (.lushr, 1) := by decide +kernel
theorem d_method_2_code_67 : decode method_2_code 67 = .ok (.lstore_n 0, 1) := by decide +kernel
theorem d_method_2_code_36 : decode method_2_code 36 = .ok (.lload_n 0, 1) := by decide +kernel
theorem d_method_2_code_37 : decode method_2_code 37 = .ok (.bipush 8, 2) := by decide +kernel
theorem d_method_2_code_39 : decode method_2_code 39 = .ok (.lushr, 1) := by decide +kernel
theorem d_method_2_code_40 : decode method_2_code 40 = .ok (.lconst 0, 1) := by decide +kernel
theorem d_method_2_code_41 : decode method_2_code 41 = .ok (.lcmp, 1) := by decide +kernel
theorem d_method_2_code_42 : decode method_2_code 42 = .ok (.ifCond .eq 11, 3) := by decide +kernel
theorem d_method_2_code_45 : decode method_2_code 45 = .ok (.iinc 2 8, 3) := by decide +kernel
theorem d_method_2_code_48 : decode method_2_code 48 = .ok (.lload_n 0, 1) := by decide +kernel
theorem d_method_2_code_49 : decode method_2_code 49 = .ok (.bipush 8, 2) := by decide +kernel
theorem d_method_2_code_51 : decode method_2_code 51 = .ok (.lushr, 1) := by decide +kernel
theorem d_method_2_code_52 : decode method_2_code 52 = .ok (.lstore_n 0, 1) := by decide +kernel
theorem d_method_2_code_19 : decode method_2_code 19 = .ok (.lload_n 0, 1) := by decide +kernel
theorem d_method_2_code_20 : decode method_2_code 20 = .ok (.bipush 16, 2) := by decide +kernel
theorem d_method_2_code_22 : decode method_2_code 22 = .ok (.lushr, 1) := by decide +kernel
theorem d_method_2_code_23 : decode method_2_code 23 = .ok (.lconst 0, 1) := by decide +kernel
theorem d_method_2_code_24 : decode method_2_code 24 = .ok (.lcmp, 1) := by decide +kernel
theorem d_method_2_code_25 : decode method_2_code 25 = .ok (.ifCond .eq 11, 3) := by decide +kernel
theorem d_method_2_code_28 : decode method_2_code 28 = .ok (.iinc 2 16, 3) := by decide +kernel
theorem d_method_2_code_31 : decode method_2_code 31 = .ok (.lload_n 0, 1) := by decide +kernel
theorem d_method_2_code_32 : decode method_2_code 32 = .ok (.bipush 16, 2) := by decide +kernel
theorem d_method_2_code_34 : decode method_2_code 34 = .ok (.lushr, 1) := by decide +kernel
theorem d_method_2_code_35 : decode method_2_code 35 = .ok (.lstore_n 0, 1) := by decide +kernel
theorem d_method_2_code_0 : decode method_2_code 0 = .ok (.iconst 0, 1) := by decide +kernel
theorem d_method_2_code_1 : decode method_2_code 1 = .ok (.istore_n 2, 1) := by decide +kernel
theorem d_method_2_code_2 : decode method_2_code 2 = .ok (.lload_n 0, 1) := by decide +kernel
theorem d_method_2_code_3 : decode method_2_code 3 = .ok (.bipush 32, 2) := by decide +kernel
theorem d_method_2_code_5 : decode method_2_code 5 = .ok (.lushr, 1) := by decide +kernel
theorem d_method_2_code_6 : decode method_2_code 6 = .ok (.lconst 0, 1) := by decide +kernel
theorem d_method_2_code_7 : decode method_2_code 7 = .ok (.lcmp, 1) := by decide +kernel
theorem d_method_2_code_8 : decode method_2_code 8 = .ok (.ifCond .eq 11, 3) := by decide +kernel
theorem d_method_2_code_11 : decode method_2_code 11 = .ok (.iinc 2 32, 3) := by decide +kernel
theorem d_method_2_code_14 : decode method_2_code 14 = .ok (.lload_n 0, 1) := by decide +kernel
theorem d_method_2_code_15 : decode method_2_code 15 = .ok (.bipush 32, 2) := by decide +kernel
theorem d_method_2_code_17 : decode method_2_code 17 = .ok (.lushr, 1) := by decide +kernel
theorem d_method_2_code_18 : decode method_2_code 18 = .ok (.lstore_n 0, 1) := by decide +kernel
theorem o_ef18 (m : MethodId) (p0 : Int64) : entryFrame m #[(.long p0)] 3 = mkF m 0 #[.val (.long p0), .second, .unset] [] := by first | (simp [entryFrame, mkF, argsToLocals, Value.category]; done) | rfl
theorem o_pn4 : plainName "com/example/marke/marke/analysis/MarkingLayoutPackPinLaw" = true := by first | (simp [plainName, overriddenIn]; done) | decide +kernel
set_option maxRecDepth 65536 in
set_option maxHeartbeats 40000000 in
theorem c_bitLen (l : Launch) (Z : State) (a0 : Array Value) (hw : ∀ d ∈ tables_1, d.before a0 Z = true) (p0 : Int64) (h0 : Heap) :
    Does l Z (⟨"com/example/marke/marke/analysis/MarkingLayoutPackPinLaw", "bitLen", "(J)I"⟩ : MethodName) method_2_code 3 (some .int) [] ({ frames := 0, cells := 0, slots := 0, locals := 0 } : Room) #[(.long p0)] h0 (Pur h0 (.int (o_t32 p0 (0 : Int32)))) := by
  refine Does.of (plainFor_of_name o_pn4) ?_
  intro p e s m below meth c T0 hx hby hml hown hnm hret hlk hZ X0 e0
  have hown : s.vm.findClass "com/example/marke/marke/analysis/MarkingLayoutPackPinLaw" = some m.cls := hown
  have hml : c.maxLocals = 3 := hml
  have hret : meth.sig.returnType = some .int := hret
  refine o_entry (o_ef18 m p0) ?_
  have kb98 : ∀ (T_ : State) (v : Int64) (n : Int32), (o_t0 v n = (o_t32 p0 (0 : Int32))) → Stand p l e (({ frames := 0, cells := 0, slots := 0, locals := 0 } : Room)) s m #[(.long p0)] below meth c T_ [] 0 0 → T_.heap = h0 → Goes p e below s (Pur h0 (.int (o_t32 p0 (0 : Int32)))) (({ frames := 0, cells := 0, slots := 0, locals := 0 } : Room)).cells (({ frames := 0, cells := 0, slots := 0, locals := 0 } : Room)).slots (T_.setTop (mkF m 98 #[.val (.long v), .second, .val (.int n)] [])) := by
    intro T_ v n hr X_ e_
    refine o_lloadN X_ hx (hb hby d_method_2_code_98) (v := v) rfl (n := 99) rfl ?_
    refine o_lconst X_ hx (hb hby d_method_2_code_99) (v := (0 : Int64)) rfl (n := 100) rfl ?_
    refine o_lcmp X_ hx (hb hby d_method_2_code_100) (n := 101) rfl ?_
    by_cases hc101 : v = (0 : Int64)
    · refine o_ifY X_ hx (hb hby d_method_2_code_101) (XT.ll_eq_t hc101) (by decide) (n := 107) (by decide) ?_
      refine o_iloadN X_ hx (hb hby d_method_2_code_107) (v := n) rfl (n := 108) rfl ?_
      exact o_ireturn X_ hx hret hlk (hb hby d_method_2_code_108) (by decide) (by decide) e_ ⟨by rw [← hr, o_t0, if_pos hc101], rfl, rfl⟩
    · refine o_ifN X_ hx (hb hby d_method_2_code_101) (XT.ll_eq_f hc101) (n := 104) rfl ?_
      refine o_iinc X_ hx (hb hby d_method_2_code_104) (w := (n + (1 : Int32))) rfl rfl (Ls' := #[.val (.long v), .second, .val (.int (n + (1 : Int32)))]) rfl (n := 107) rfl ?_
      refine o_iloadN X_ hx (hb hby d_method_2_code_107) (v := (n + (1 : Int32))) rfl (n := 108) rfl ?_
      exact o_ireturn X_ hx hret hlk (hb hby d_method_2_code_108) (by decide) (by decide) e_ ⟨by rw [← hr, o_t0, if_neg hc101], rfl, rfl⟩
  have kb83 : ∀ (T_ : State) (v : Int64) (n : Int32), (o_t1 v n = (o_t32 p0 (0 : Int32))) → Stand p l e (({ frames := 0, cells := 0, slots := 0, locals := 0 } : Room)) s m #[(.long p0)] below meth c T_ [] 0 0 → T_.heap = h0 → Goes p e below s (Pur h0 (.int (o_t32 p0 (0 : Int32)))) (({ frames := 0, cells := 0, slots := 0, locals := 0 } : Room)).cells (({ frames := 0, cells := 0, slots := 0, locals := 0 } : Room)).slots (T_.setTop (mkF m 83 #[.val (.long v), .second, .val (.int n)] [])) := by
    intro T_ v n hr X_ e_
    refine o_lloadN X_ hx (hb hby d_method_2_code_83) (v := v) rfl (n := 84) rfl ?_
    refine o_iconst X_ hx (hb hby d_method_2_code_84) (v := (1 : Int32)) rfl (n := 85) rfl ?_
    refine o_lushr X_ hx (hb hby d_method_2_code_85) (v := (o_sh 1 v)) rfl (n := 86) rfl ?_
    refine o_lconst X_ hx (hb hby d_method_2_code_86) (v := (0 : Int64)) rfl (n := 87) rfl ?_
    refine o_lcmp X_ hx (hb hby d_method_2_code_87) (n := 88) rfl ?_
    by_cases hc88 : (o_sh 1 v) = (0 : Int64)
    · refine o_ifY X_ hx (hb hby d_method_2_code_88) (XT.ll_eq_t hc88) (by decide) (n := 98) (by decide) ?_
      exact kb98 _ _ _ (by rw [← hr, o_t1, if_pos hc88]) X_ e_
    · refine o_ifN X_ hx (hb hby d_method_2_code_88) (XT.ll_eq_f hc88) (n := 91) rfl ?_
      refine o_iinc X_ hx (hb hby d_method_2_code_91) (w := (n + (1 : Int32))) rfl rfl (Ls' := #[.val (.long v), .second, .val (.int (n + (1 : Int32)))]) rfl (n := 94) rfl ?_
      refine o_lloadN X_ hx (hb hby d_method_2_code_94) (v := v) rfl (n := 95) rfl ?_
      refine o_iconst X_ hx (hb hby d_method_2_code_95) (v := (1 : Int32)) rfl (n := 96) rfl ?_
      refine o_lushr X_ hx (hb hby d_method_2_code_96) (v := (o_sh 1 v)) rfl (n := 97) rfl ?_
      refine o_lstoreN X_ hx (hb hby d_method_2_code_97) (Ls' := #[.val (.long (o_sh 1 v)), .second, .val (.int (n + (1 : Int32)))]) rfl (n := 98) rfl ?_
      exact kb98 _ _ _ (by rw [← hr, o_t1, if_neg hc88]) X_ e_
  have kb68 : ∀ (T_ : State) (v : Int64) (n : Int32), (o_t2 v n = (o_t32 p0 (0 : Int32))) → Stand p l e (({ frames := 0, cells := 0, slots := 0, locals := 0 } : Room)) s m #[(.long p0)] below meth c T_ [] 0 0 → T_.heap = h0 → Goes p e below s (Pur h0 (.int (o_t32 p0 (0 : Int32)))) (({ frames := 0, cells := 0, slots := 0, locals := 0 } : Room)).cells (({ frames := 0, cells := 0, slots := 0, locals := 0 } : Room)).slots (T_.setTop (mkF m 68 #[.val (.long v), .second, .val (.int n)] [])) := by
    intro T_ v n hr X_ e_
    refine o_lloadN X_ hx (hb hby d_method_2_code_68) (v := v) rfl (n := 69) rfl ?_
    refine o_iconst X_ hx (hb hby d_method_2_code_69) (v := (2 : Int32)) rfl (n := 70) rfl ?_
    refine o_lushr X_ hx (hb hby d_method_2_code_70) (v := (o_sh 2 v)) rfl (n := 71) rfl ?_
    refine o_lconst X_ hx (hb hby d_method_2_code_71) (v := (0 : Int64)) rfl (n := 72) rfl ?_
    refine o_lcmp X_ hx (hb hby d_method_2_code_72) (n := 73) rfl ?_
    by_cases hc73 : (o_sh 2 v) = (0 : Int64)
    · refine o_ifY X_ hx (hb hby d_method_2_code_73) (XT.ll_eq_t hc73) (by decide) (n := 83) (by decide) ?_
      exact kb83 _ _ _ (by rw [← hr, o_t2, if_pos hc73]) X_ e_
    · refine o_ifN X_ hx (hb hby d_method_2_code_73) (XT.ll_eq_f hc73) (n := 76) rfl ?_
      refine o_iinc X_ hx (hb hby d_method_2_code_76) (w := (n + (2 : Int32))) rfl rfl (Ls' := #[.val (.long v), .second, .val (.int (n + (2 : Int32)))]) rfl (n := 79) rfl ?_
      refine o_lloadN X_ hx (hb hby d_method_2_code_79) (v := v) rfl (n := 80) rfl ?_
      refine o_iconst X_ hx (hb hby d_method_2_code_80) (v := (2 : Int32)) rfl (n := 81) rfl ?_
      refine o_lushr X_ hx (hb hby d_method_2_code_81) (v := (o_sh 2 v)) rfl (n := 82) rfl ?_
      refine o_lstoreN X_ hx (hb hby d_method_2_code_82) (Ls' := #[.val (.long (o_sh 2 v)), .second, .val (.int (n + (2 : Int32)))]) rfl (n := 83) rfl ?_
      exact kb83 _ _ _ (by rw [← hr, o_t2, if_neg hc73]) X_ e_
  have kb53 : ∀ (T_ : State) (v : Int64) (n : Int32), (o_t4 v n = (o_t32 p0 (0 : Int32))) → Stand p l e (({ frames := 0, cells := 0, slots := 0, locals := 0 } : Room)) s m #[(.long p0)] below meth c T_ [] 0 0 → T_.heap = h0 → Goes p e below s (Pur h0 (.int (o_t32 p0 (0 : Int32)))) (({ frames := 0, cells := 0, slots := 0, locals := 0 } : Room)).cells (({ frames := 0, cells := 0, slots := 0, locals := 0 } : Room)).slots (T_.setTop (mkF m 53 #[.val (.long v), .second, .val (.int n)] [])) := by
    intro T_ v n hr X_ e_
    refine o_lloadN X_ hx (hb hby d_method_2_code_53) (v := v) rfl (n := 54) rfl ?_
    refine o_iconst X_ hx (hb hby d_method_2_code_54) (v := (4 : Int32)) rfl (n := 55) rfl ?_
    refine o_lushr X_ hx (hb hby d_method_2_code_55) (v := (o_sh 4 v)) rfl (n := 56) rfl ?_
    refine o_lconst X_ hx (hb hby d_method_2_code_56) (v := (0 : Int64)) rfl (n := 57) rfl ?_
    refine o_lcmp X_ hx (hb hby d_method_2_code_57) (n := 58) rfl ?_
    by_cases hc58 : (o_sh 4 v) = (0 : Int64)
    · refine o_ifY X_ hx (hb hby d_method_2_code_58) (XT.ll_eq_t hc58) (by decide) (n := 68) (by decide) ?_
      exact kb68 _ _ _ (by rw [← hr, o_t4, if_pos hc58]) X_ e_
    · refine o_ifN X_ hx (hb hby d_method_2_code_58) (XT.ll_eq_f hc58) (n := 61) rfl ?_
      refine o_iinc X_ hx (hb hby d_method_2_code_61) (w := (n + (4 : Int32))) rfl rfl (Ls' := #[.val (.long v), .second, .val (.int (n + (4 : Int32)))]) rfl (n := 64) rfl ?_
      refine o_lloadN X_ hx (hb hby d_method_2_code_64) (v := v) rfl (n := 65) rfl ?_
      refine o_iconst X_ hx (hb hby d_method_2_code_65) (v := (4 : Int32)) rfl (n := 66) rfl ?_
      refine o_lushr X_ hx (hb hby d_method_2_code_66) (v := (o_sh 4 v)) rfl (n := 67) rfl ?_
      refine o_lstoreN X_ hx (hb hby d_method_2_code_67) (Ls' := #[.val (.long (o_sh 4 v)), .second, .val (.int (n + (4 : Int32)))]) rfl (n := 68) rfl ?_
      exact kb68 _ _ _ (by rw [← hr, o_t4, if_neg hc58]) X_ e_
  have kb36 : ∀ (T_ : State) (v : Int64) (n : Int32), (o_t8 v n = (o_t32 p0 (0 : Int32))) → Stand p l e (({ frames := 0, cells := 0, slots := 0, locals := 0 } : Room)) s m #[(.long p0)] below meth c T_ [] 0 0 → T_.heap = h0 → Goes p e below s (Pur h0 (.int (o_t32 p0 (0 : Int32)))) (({ frames := 0, cells := 0, slots := 0, locals := 0 } : Room)).cells (({ frames := 0, cells := 0, slots := 0, locals := 0 } : Room)).slots (T_.setTop (mkF m 36 #[.val (.long v), .second, .val (.int n)] [])) := by
    intro T_ v n hr X_ e_
    refine o_lloadN X_ hx (hb hby d_method_2_code_36) (v := v) rfl (n := 37) rfl ?_
    refine o_bipush X_ hx (hb hby d_method_2_code_37) (v := (8 : Int32)) rfl (n := 39) rfl ?_
    refine o_lushr X_ hx (hb hby d_method_2_code_39) (v := (o_sh 8 v)) rfl (n := 40) rfl ?_
    refine o_lconst X_ hx (hb hby d_method_2_code_40) (v := (0 : Int64)) rfl (n := 41) rfl ?_
    refine o_lcmp X_ hx (hb hby d_method_2_code_41) (n := 42) rfl ?_
    by_cases hc42 : (o_sh 8 v) = (0 : Int64)
    · refine o_ifY X_ hx (hb hby d_method_2_code_42) (XT.ll_eq_t hc42) (by decide) (n := 53) (by decide) ?_
      exact kb53 _ _ _ (by rw [← hr, o_t8, if_pos hc42]) X_ e_
    · refine o_ifN X_ hx (hb hby d_method_2_code_42) (XT.ll_eq_f hc42) (n := 45) rfl ?_
      refine o_iinc X_ hx (hb hby d_method_2_code_45) (w := (n + (8 : Int32))) rfl rfl (Ls' := #[.val (.long v), .second, .val (.int (n + (8 : Int32)))]) rfl (n := 48) rfl ?_
      refine o_lloadN X_ hx (hb hby d_method_2_code_48) (v := v) rfl (n := 49) rfl ?_
      refine o_bipush X_ hx (hb hby d_method_2_code_49) (v := (8 : Int32)) rfl (n := 51) rfl ?_
      refine o_lushr X_ hx (hb hby d_method_2_code_51) (v := (o_sh 8 v)) rfl (n := 52) rfl ?_
      refine o_lstoreN X_ hx (hb hby d_method_2_code_52) (Ls' := #[.val (.long (o_sh 8 v)), .second, .val (.int (n + (8 : Int32)))]) rfl (n := 53) rfl ?_
      exact kb53 _ _ _ (by rw [← hr, o_t8, if_neg hc42]) X_ e_
  have kb19 : ∀ (T_ : State) (v : Int64) (n : Int32), (o_t16 v n = (o_t32 p0 (0 : Int32))) → Stand p l e (({ frames := 0, cells := 0, slots := 0, locals := 0 } : Room)) s m #[(.long p0)] below meth c T_ [] 0 0 → T_.heap = h0 → Goes p e below s (Pur h0 (.int (o_t32 p0 (0 : Int32)))) (({ frames := 0, cells := 0, slots := 0, locals := 0 } : Room)).cells (({ frames := 0, cells := 0, slots := 0, locals := 0 } : Room)).slots (T_.setTop (mkF m 19 #[.val (.long v), .second, .val (.int n)] [])) := by
    intro T_ v n hr X_ e_
    refine o_lloadN X_ hx (hb hby d_method_2_code_19) (v := v) rfl (n := 20) rfl ?_
    refine o_bipush X_ hx (hb hby d_method_2_code_20) (v := (16 : Int32)) rfl (n := 22) rfl ?_
    refine o_lushr X_ hx (hb hby d_method_2_code_22) (v := (o_sh 16 v)) rfl (n := 23) rfl ?_
    refine o_lconst X_ hx (hb hby d_method_2_code_23) (v := (0 : Int64)) rfl (n := 24) rfl ?_
    refine o_lcmp X_ hx (hb hby d_method_2_code_24) (n := 25) rfl ?_
    by_cases hc25 : (o_sh 16 v) = (0 : Int64)
    · refine o_ifY X_ hx (hb hby d_method_2_code_25) (XT.ll_eq_t hc25) (by decide) (n := 36) (by decide) ?_
      exact kb36 _ _ _ (by rw [← hr, o_t16, if_pos hc25]) X_ e_
    · refine o_ifN X_ hx (hb hby d_method_2_code_25) (XT.ll_eq_f hc25) (n := 28) rfl ?_
      refine o_iinc X_ hx (hb hby d_method_2_code_28) (w := (n + (16 : Int32))) rfl rfl (Ls' := #[.val (.long v), .second, .val (.int (n + (16 : Int32)))]) rfl (n := 31) rfl ?_
      refine o_lloadN X_ hx (hb hby d_method_2_code_31) (v := v) rfl (n := 32) rfl ?_
      refine o_bipush X_ hx (hb hby d_method_2_code_32) (v := (16 : Int32)) rfl (n := 34) rfl ?_
      refine o_lushr X_ hx (hb hby d_method_2_code_34) (v := (o_sh 16 v)) rfl (n := 35) rfl ?_
      refine o_lstoreN X_ hx (hb hby d_method_2_code_35) (Ls' := #[.val (.long (o_sh 16 v)), .second, .val (.int (n + (16 : Int32)))]) rfl (n := 36) rfl ?_
      exact kb36 _ _ _ (by rw [← hr, o_t16, if_neg hc25]) X_ e_
  refine o_iconst X0 hx (hb hby d_method_2_code_0) (v := (0 : Int32)) rfl (n := 1) rfl ?_
  refine o_istoreN X0 hx (hb hby d_method_2_code_1) (Ls' := #[.val (.long p0), .second, .val (.int (0 : Int32))]) rfl (n := 2) rfl ?_
  refine o_lloadN X0 hx (hb hby d_method_2_code_2) (v := p0) rfl (n := 3) rfl ?_
  refine o_bipush X0 hx (hb hby d_method_2_code_3) (v := (32 : Int32)) rfl (n := 5) rfl ?_
  refine o_lushr X0 hx (hb hby d_method_2_code_5) (v := (o_sh 32 p0)) rfl (n := 6) rfl ?_
  refine o_lconst X0 hx (hb hby d_method_2_code_6) (v := (0 : Int64)) rfl (n := 7) rfl ?_
  refine o_lcmp X0 hx (hb hby d_method_2_code_7) (n := 8) rfl ?_
  by_cases hc8 : (o_sh 32 p0) = (0 : Int64)
  · refine o_ifY X0 hx (hb hby d_method_2_code_8) (XT.ll_eq_t hc8) (by decide) (n := 19) (by decide) ?_
    exact kb19 _ _ _ (by rw [o_t32, if_pos hc8]) X0 e0
  · refine o_ifN X0 hx (hb hby d_method_2_code_8) (XT.ll_eq_f hc8) (n := 11) rfl ?_
    refine o_iinc X0 hx (hb hby d_method_2_code_11) (w := ((0 : Int32) + (32 : Int32))) rfl rfl (Ls' := #[.val (.long p0), .second, .val (.int ((0 : Int32) + (32 : Int32)))]) rfl (n := 14) rfl ?_
    refine o_lloadN X0 hx (hb hby d_method_2_code_14) (v := p0) rfl (n := 15) rfl ?_
    refine o_bipush X0 hx (hb hby d_method_2_code_15) (v := (32 : Int32)) rfl (n := 17) rfl ?_
    refine o_lushr X0 hx (hb hby d_method_2_code_17) (v := (o_sh 32 p0)) rfl (n := 18) rfl ?_
    refine o_lstoreN X0 hx (hb hby d_method_2_code_18) (Ls' := #[.val (.long (o_sh 32 p0)), .second, .val (.int ((0 : Int32) + (32 : Int32)))]) rfl (n := 19) rfl ?_
    exact kb19 _ _ _ (by rw [o_t32, if_neg hc8]) X0 e0
theorem d_method_3_code_0 : decode method_3_code 0 = .ok (.lload_n 0, 1) := by decide +kernel
theorem d_method_3_code_1 : decode method_3_code 1 = .ok (.ldc2_w 7, 3) := by decide +kernel
theorem d_method_3_code_4 : decode method_3_code 4 = .ok (.land, 1) := by decide +kernel
theorem d_method_3_code_5 : decode method_3_code 5 = .ok (.lconst 0, 1) := by decide +kernel
theorem d_method_3_code_6 : decode method_3_code 6 = .ok (.lcmp, 1) := by decide +kernel
theorem d_method_3_code_7 : decode method_3_code 7 = .ok (.ifCond .ne 5, 3) := by decide +kernel
theorem d_method_3_code_10 : decode method_3_code 10 = .ok (.iconst 1, 1) := by decide +kernel
theorem d_method_3_code_11 : decode method_3_code 11 = .ok (.ireturn, 1) := by decide +kernel
theorem d_method_3_code_12 : decode method_3_code 12 = .ok (.iconst 2, 1) := by decide +kernel
theorem d_method_3_code_13 : decode method_3_code 13 = .ok (.lload_n 0, 1) := by decide +kernel
theorem d_method_3_code_14 : decode method_3_code 14 = .ok (.invokestatic 9, 3) := by decide +kernel
theorem d_method_3_code_17 : decode method_3_code 17 = .ok (.invokestatic 15, 3) := by decide +kernel
theorem d_method_3_code_20 : decode method_3_code 20 = .ok (.ireturn, 1) := by decide +kernel
theorem o_ef19 (m : MethodId) (p0 : Int64) : entryFrame m #[(.long p0)] 2 = mkF m 0 #[.val (.long p0), .second] [] := by first | (simp [entryFrame, mkF, argsToLocals, Value.category]; done) | rfl
set_option maxRecDepth 65536 in
set_option maxHeartbeats 40000000 in
theorem c_width (l : Launch) (Z : State) (a0 : Array Value) (hw : ∀ d ∈ tables_1, d.before a0 Z = true) (p0 : Int64) (h0 : Heap) :
    Does l Z (⟨"com/example/marke/marke/analysis/MarkingLayoutPackPinLaw", "width", "(J)I"⟩ : MethodName) method_3_code 2 (some .int) [] ({ frames := 1, cells := 0, slots := 0, locals := 15 } : Room) #[(.long p0)] h0 (Pur h0 (.int (o_width p0))) := by
  refine Does.of (plainFor_of_name o_pn4) ?_
  intro p e s m below meth c T0 hx hby hml hown hnm hret hlk hZ X0 e0
  have hown : s.vm.findClass "com/example/marke/marke/analysis/MarkingLayoutPackPinLaw" = some m.cls := hown
  have hml : c.maxLocals = 2 := hml
  have hret : meth.sig.returnType = some .int := hret
  refine o_entry (o_ef19 m p0) ?_
  refine o_lloadN X0 hx (hb hby d_method_3_code_0) (v := p0) rfl (n := 1) rfl ?_
  refine o_ldc2_w X0 hx hZ (v := (-2 : Int64)) hown (hw _ (List.mem_of_getElem? (i := 101) rfl)) (hb hby d_method_3_code_1) (n := 4) rfl ?_
  refine o_land X0 hx (hb hby d_method_3_code_4) (v := (p0 &&& (-2 : Int64))) rfl (n := 5) rfl ?_
  refine o_lconst X0 hx (hb hby d_method_3_code_5) (v := (0 : Int64)) rfl (n := 6) rfl ?_
  refine o_lcmp X0 hx (hb hby d_method_3_code_6) (n := 7) rfl ?_
  by_cases hc7 : (p0 &&& (-2 : Int64)) = (0 : Int64)
  · refine o_ifN X0 hx (hb hby d_method_3_code_7) (XT.ll_ne_f hc7) (n := 10) rfl ?_
    refine o_iconst X0 hx (hb hby d_method_3_code_10) (v := (1 : Int32)) rfl (n := 11) rfl ?_
    exact o_ireturn X0 hx hret hlk (hb hby d_method_3_code_11) (by decide) (by decide) e0 ⟨by first | (simp only [o_width, hc7, o_nz1, o_nz0, ↓reduceIte, eq_self]; done) | (simp [o_width, hc7]; done) | (simp [o_width, hc7, o_nz1, o_nz0]; done), rfl, rfl⟩
  · refine o_ifY X0 hx (hb hby d_method_3_code_7) (XT.ll_ne_t hc7) (by decide) (n := 12) (by decide) ?_
    refine o_iconst X0 hx (hb hby d_method_3_code_12) (v := (2 : Int32)) rfl (n := 13) rfl ?_
    refine o_lloadN X0 hx (hb hby d_method_3_code_13) (v := p0) rfl (n := 14) rfl ?_
    refine o_callS X0 hx hZ hown (hw _ (List.mem_of_getElem? (i := 102) rfl)) (hw _ (List.mem_of_getElem? (i := 103) rfl)) (hw _ (List.mem_of_getElem? (i := 99) rfl)) (hw _ (List.mem_of_getElem? (i := 104) rfl)) (by decide) e0 (argsL := [(.long p0)]) (rest := [(.int (2 : Int32))]) (c_bitLen l Z a0 hw p0 h0) 1 (by decide) (by decide) (by decide) (by decide) (by rw [hml]; rfl) (lenOf o_pd9 rfl) rfl (Nat.le_of_eq rfl) (hb hby d_method_3_code_14) (n := 17) rfl ?_
    intro v1 T1 L1 X1 q1
    obtain ⟨rfl, e1, rfl⟩ := q1
    show Goes p e below s _ _ _ (T1.setTop (mkF m 17 #[.val (.long p0), .second] [(.int (o_t32 p0 (0 : Int32))), (.int (2 : Int32))]))
    refine o_callS X1 hx hZ hown (hw _ (List.mem_of_getElem? (i := 105) rfl)) (hw _ (List.mem_of_getElem? (i := 41) rfl)) (hw _ (List.mem_of_getElem? (i := 42) rfl)) (hw _ (List.mem_of_getElem? (i := 43) rfl)) (by decide) e1 (argsL := [(.int (2 : Int32)), (.int (o_t32 p0 (0 : Int32)))]) (rest := []) (c_max l Z a0 hw (2 : Int32) (o_t32 p0 (0 : Int32)) h0) 0 (by decide) (by decide) (by decide) (by decide) (by rw [hml]; rfl) (lenOf o_pd3 rfl) rfl (Nat.le_of_eq rfl) (hb hby d_method_3_code_17) (n := 20) rfl ?_
    intro v2 T2 L2 X2 q2
    obtain ⟨rfl, e2, rfl⟩ := q2
    show Goes p e below s _ _ _ (T2.setTop (mkF m 20 #[.val (.long p0), .second] [(.int (o_mx (2 : Int32) (o_t32 p0 (0 : Int32))))]))
    exact o_ireturn X2 hx hret hlk (hb hby d_method_3_code_20) (by decide) (by decide) e2 ⟨by first | (simp only [o_width, hc7, o_nz1, o_nz0, ↓reduceIte, eq_self]; done) | (simp [o_width, hc7]; done) | (simp [o_width, hc7, o_nz1, o_nz0]; done), rfl, rfl⟩
theorem d_method_4_code_0 : decode method_4_code 0 = .ok (.iload_n 0, 1) := by decide +kernel
theorem d_method_4_code_1 : decode method_4_code 1 = .ok (.bipush 64, 2) := by decide +kernel
theorem d_method_4_code_3 : decode method_4_code 3 = .ok (.if_icmp .lt 9, 3) := by decide +kernel
theorem d_method_4_code_12 : decode method_4_code 12 = .ok (.lconst 1, 1) := by decide +kernel
theorem d_method_4_code_13 : decode method_4_code 13 = .ok (.iload_n 0, 1) := by decide +kernel
theorem d_method_4_code_14 : decode method_4_code 14 = .ok (.lshl, 1) := by decide +kernel
theorem d_method_4_code_15 : decode method_4_code 15 = .ok (.lconst 1, 1) := by decide +kernel
theorem d_method_4_code_16 : decode method_4_code 16 = .ok (.lsub, 1) := by decide +kernel
theorem d_method_4_code_17 : decode method_4_code 17 = .ok (.lreturn, 1) := by decide +kernel
theorem d_method_4_code_6 : decode method_4_code 6 = .ok (.ldc2_w 21, 3) := by decide +kernel
theorem d_method_4_code_9 : decode method_4_code 9 = .ok (.goto 8, 3) := by decide +kernel
theorem o_ef20 (m : MethodId) (p0 : Int32) : entryFrame m #[(.int p0)] 1 = mkF m 0 #[.val (.int p0)] [] := by first | (simp [entryFrame, mkF, argsToLocals, Value.category]; done) | rfl
set_option maxRecDepth 65536 in
set_option maxHeartbeats 40000000 in
theorem c_ones (l : Launch) (Z : State) (a0 : Array Value) (hw : ∀ d ∈ tables_1, d.before a0 Z = true) (p0 : Int32) (h0 : Heap) :
    Does l Z (⟨"com/example/marke/marke/analysis/MarkingLayoutPackPinLaw", "ones", "(I)J"⟩ : MethodName) method_4_code 1 (some .long) [] ({ frames := 0, cells := 0, slots := 0, locals := 0 } : Room) #[(.int p0)] h0 (Pur h0 (.long (o_on p0))) := by
  refine Does.of (plainFor_of_name o_pn4) ?_
  intro p e s m below meth c T0 hx hby hml hown hnm hret hlk hZ X0 e0
  have hown : s.vm.findClass "com/example/marke/marke/analysis/MarkingLayoutPackPinLaw" = some m.cls := hown
  have hml : c.maxLocals = 1 := hml
  have hret : meth.sig.returnType = some .long := hret
  refine o_entry (o_ef20 m p0) ?_
  refine o_iloadN X0 hx (hb hby d_method_4_code_0) (v := p0) rfl (n := 1) rfl ?_
  refine o_bipush X0 hx (hb hby d_method_4_code_1) (v := (64 : Int32)) rfl (n := 3) rfl ?_
  by_cases hc3 : p0 < (64 : Int32)
  · refine o_icmpY X0 hx (hb hby d_method_4_code_3) (XT.ii_lt_t hc3) (by decide) (n := 12) (by decide) ?_
    refine o_lconst X0 hx (hb hby d_method_4_code_12) (v := (1 : Int64)) rfl (n := 13) rfl ?_
    refine o_iloadN X0 hx (hb hby d_method_4_code_13) (v := p0) rfl (n := 14) rfl ?_
    refine o_lshl X0 hx (hb hby d_method_4_code_14) (v := ((1 : Int64) <<< (p0 &&& 0x3f).toInt64)) rfl (n := 15) rfl ?_
    refine o_lconst X0 hx (hb hby d_method_4_code_15) (v := (1 : Int64)) rfl (n := 16) rfl ?_
    refine o_lsub X0 hx (hb hby d_method_4_code_16) (v := (((1 : Int64) <<< (p0 &&& 0x3f).toInt64) - (1 : Int64))) rfl (n := 17) rfl ?_
    exact o_lreturn X0 hx hret hlk (hb hby d_method_4_code_17) (by decide) (by decide) e0 ⟨by first | (simp only [o_on, hc3, o_nz1, o_nz0, ↓reduceIte, eq_self]; done) | (simp [o_on, hc3]; done) | (simp [o_on, hc3, o_nz1, o_nz0]; done), rfl, rfl⟩
  · refine o_icmpN X0 hx (hb hby d_method_4_code_3) (XT.ii_lt_f hc3) (n := 6) rfl ?_
    refine o_ldc2_w X0 hx hZ (v := (-1 : Int64)) hown (hw _ (List.mem_of_getElem? (i := 91) rfl)) (hb hby d_method_4_code_6) (n := 9) rfl ?_
    refine o_goto X0 hx (hb hby d_method_4_code_9) (by decide) (n := 17) (by decide) ?_
    exact o_lreturn X0 hx hret hlk (hb hby d_method_4_code_17) (by decide) (by decide) e0 ⟨by first | (simp only [o_on, hc3, o_nz1, o_nz0, ↓reduceIte, eq_self]; done) | (simp [o_on, hc3]; done) | (simp [o_on, hc3, o_nz1, o_nz0]; done), rfl, rfl⟩
theorem o_pd10 : parseMethodDescriptor "(I)V" = some ⟨[.int], none⟩ := by decide +kernel
theorem o_pd11 : parseMethodDescriptor "([J)V" = some ⟨[(.array .long)], none⟩ := by decide +kernel
theorem o_pd12 : parseMethodDescriptor "([J[J)Z" = some ⟨[(.array .long), (.array .long)], some .boolean⟩ := by decide +kernel
theorem o_pd13 : parseMethodDescriptor "(I)J" = some ⟨[.int], some .long⟩ := by decide +kernel
theorem o_ef21 (m : MethodId) (u0 : Int64) (u1 : Int64) (v0 : Int64) (v1 : Int64) (sel : Int32) : entryFrame m #[(.long u0), (.long u1), (.long v0), (.long v1), (.int sel)] maxLocals = mkF m 0 #[.val (.long u0), .second, .val (.long u1), .second, .val (.long v0), .second, .val (.long v1), .second, .val (.int sel), .unset, .unset, .unset, .unset, .unset, .unset, .unset, .unset, .unset, .unset, .unset, .unset, .unset, .unset, .unset, .unset, .unset, .unset, .unset, .unset, .unset, .unset, .unset, .unset, .unset, .unset, .unset, .unset, .unset] [] := by first | (simp [entryFrame, mkF, argsToLocals, Value.category, maxLocals]; done) | rfl
set_option maxRecDepth 65536 in
set_option maxHeartbeats 40000000 in
theorem o_law (l : Launch) (Z : State) (a0 : Array Value) (hw : ∀ d ∈ tables_1, d.before a0 Z = true) (u0 : Int64) (u1 : Int64) (v0 : Int64) (v1 : Int64) (sel : Int32) (h0 : Heap) (n0 : Nat) (Z0 : n0 ≤ h0.size) :
    Does l Z x code maxLocals ret tables_1 room_1 #[(.long u0), (.long u1), (.long v0), (.long v1), (.int sel)] h0 (fun v h L => v = some (.int 1) ∧ Fr n0 L) := by
  refine Does.of (plainFor_of_name o_pn4) ?_
  intro p e s m below meth c T0 hx hby hml hown hnm hret hlk hZ X0 e0
  have hown : s.vm.findClass "com/example/marke/marke/analysis/MarkingLayoutPackPinLaw" = some m.cls := hown
  have hml : c.maxLocals = 38 := hml
  have hret : meth.sig.returnType = some .boolean := hret
  refine o_entry (o_ef21 m u0 u1 v0 v1 sel) ?_
  have N0 := Fr.nil n0
  refine o_lloadN X0 hx (hb hby at_0) (v := u0) rfl (n := 1) rfl ?_
  refine o_iload X0 hx (hb hby at_1) (v := sel) rfl (n := 3) rfl ?_
  refine o_bipush X0 hx (hb hby at_3) (v := (63 : Int32)) rfl (n := 5) rfl ?_
  refine o_iand X0 hx (hb hby at_5) (v := (sel &&& (63 : Int32))) rfl (n := 6) rfl ?_
  refine o_lushr X0 hx (hb hby at_6) (v := ((u0).toUInt64 >>> ((sel &&& (63 : Int32)) &&& 0x3f).toInt64.toUInt64).toInt64) rfl (n := 7) rfl ?_
  refine o_lstore X0 hx (hb hby at_7) (Ls' := #[.val (.long u0), .second, .val (.long u1), .second, .val (.long v0), .second, .val (.long v1), .second, .val (.int sel), .val (.long (((u0).toUInt64 >>> ((sel &&& (63 : Int32)) &&& 0x3f).toInt64.toUInt64).toInt64)), .second, .unset, .unset, .unset, .unset, .unset, .unset, .unset, .unset, .unset, .unset, .unset, .unset, .unset, .unset, .unset, .unset, .unset, .unset, .unset, .unset, .unset, .unset, .unset, .unset, .unset, .unset, .unset]) rfl (n := 9) rfl ?_
  generalize h_z0 : ((u0).toUInt64 >>> ((sel &&& (63 : Int32)) &&& 0x3f).toInt64.toUInt64).toInt64 = z0
  refine o_lloadN X0 hx (hb hby at_9) (v := u1) rfl (n := 10) rfl ?_
  refine o_iload X0 hx (hb hby at_10) (v := sel) rfl (n := 12) rfl ?_
  refine o_bipush X0 hx (hb hby at_12) (v := (6 : Int32)) rfl (n := 14) rfl ?_
  refine o_iushr X0 hx (hb hby at_14) (v := (sel.toUInt32 >>> (6 : UInt32)).toInt32) (congrArg (fun q : UInt32 => (sel.toUInt32 >>> q).toInt32) (show ((6 : Int32) &&& 31).toUInt32 = 6 by decide)) (n := 15) rfl ?_
  refine o_bipush X0 hx (hb hby at_15) (v := (63 : Int32)) rfl (n := 17) rfl ?_
  refine o_iand X0 hx (hb hby at_17) (v := ((sel.toUInt32 >>> (6 : UInt32)).toInt32 &&& (63 : Int32))) rfl (n := 18) rfl ?_
  refine o_lushr X0 hx (hb hby at_18) (v := ((u1).toUInt64 >>> (((sel.toUInt32 >>> (6 : UInt32)).toInt32 &&& (63 : Int32)) &&& 0x3f).toInt64.toUInt64).toInt64) rfl (n := 19) rfl ?_
  refine o_lstore X0 hx (hb hby at_19) (Ls' := #[.val (.long u0), .second, .val (.long u1), .second, .val (.long v0), .second, .val (.long v1), .second, .val (.int sel), .val (.long z0), .second, .val (.long (((u1).toUInt64 >>> (((sel.toUInt32 >>> (6 : UInt32)).toInt32 &&& (63 : Int32)) &&& 0x3f).toInt64.toUInt64).toInt64)), .second, .unset, .unset, .unset, .unset, .unset, .unset, .unset, .unset, .unset, .unset, .unset, .unset, .unset, .unset, .unset, .unset, .unset, .unset, .unset, .unset, .unset, .unset, .unset, .unset, .unset]) rfl (n := 21) rfl ?_
  generalize h_z1 : ((u1).toUInt64 >>> (((sel.toUInt32 >>> (6 : UInt32)).toInt32 &&& (63 : Int32)) &&& 0x3f).toInt64.toUInt64).toInt64 = z1
  refine o_lload X0 hx (hb hby at_21) (v := v0) rfl (n := 23) rfl ?_
  refine o_iload X0 hx (hb hby at_23) (v := sel) rfl (n := 25) rfl ?_
  refine o_bipush X0 hx (hb hby at_25) (v := (12 : Int32)) rfl (n := 27) rfl ?_
  refine o_iushr X0 hx (hb hby at_27) (v := (sel.toUInt32 >>> (12 : UInt32)).toInt32) (congrArg (fun q : UInt32 => (sel.toUInt32 >>> q).toInt32) (show ((12 : Int32) &&& 31).toUInt32 = 12 by decide)) (n := 28) rfl ?_
  refine o_bipush X0 hx (hb hby at_28) (v := (63 : Int32)) rfl (n := 30) rfl ?_
  refine o_iand X0 hx (hb hby at_30) (v := ((sel.toUInt32 >>> (12 : UInt32)).toInt32 &&& (63 : Int32))) rfl (n := 31) rfl ?_
  refine o_lushr X0 hx (hb hby at_31) (v := ((v0).toUInt64 >>> (((sel.toUInt32 >>> (12 : UInt32)).toInt32 &&& (63 : Int32)) &&& 0x3f).toInt64.toUInt64).toInt64) rfl (n := 32) rfl ?_
  refine o_lstore X0 hx (hb hby at_32) (Ls' := #[.val (.long u0), .second, .val (.long u1), .second, .val (.long v0), .second, .val (.long v1), .second, .val (.int sel), .val (.long z0), .second, .val (.long z1), .second, .val (.long (((v0).toUInt64 >>> (((sel.toUInt32 >>> (12 : UInt32)).toInt32 &&& (63 : Int32)) &&& 0x3f).toInt64.toUInt64).toInt64)), .second, .unset, .unset, .unset, .unset, .unset, .unset, .unset, .unset, .unset, .unset, .unset, .unset, .unset, .unset, .unset, .unset, .unset, .unset, .unset, .unset, .unset, .unset, .unset]) rfl (n := 34) rfl ?_
  generalize h_m0 : ((v0).toUInt64 >>> (((sel.toUInt32 >>> (12 : UInt32)).toInt32 &&& (63 : Int32)) &&& 0x3f).toInt64.toUInt64).toInt64 = m0
  refine o_lload X0 hx (hb hby at_34) (v := v1) rfl (n := 36) rfl ?_
  refine o_iload X0 hx (hb hby at_36) (v := sel) rfl (n := 38) rfl ?_
  refine o_bipush X0 hx (hb hby at_38) (v := (18 : Int32)) rfl (n := 40) rfl ?_
  refine o_iushr X0 hx (hb hby at_40) (v := (sel.toUInt32 >>> (18 : UInt32)).toInt32) (congrArg (fun q : UInt32 => (sel.toUInt32 >>> q).toInt32) (show ((18 : Int32) &&& 31).toUInt32 = 18 by decide)) (n := 41) rfl ?_
  refine o_bipush X0 hx (hb hby at_41) (v := (63 : Int32)) rfl (n := 43) rfl ?_
  refine o_iand X0 hx (hb hby at_43) (v := ((sel.toUInt32 >>> (18 : UInt32)).toInt32 &&& (63 : Int32))) rfl (n := 44) rfl ?_
  refine o_lushr X0 hx (hb hby at_44) (v := ((v1).toUInt64 >>> (((sel.toUInt32 >>> (18 : UInt32)).toInt32 &&& (63 : Int32)) &&& 0x3f).toInt64.toUInt64).toInt64) rfl (n := 45) rfl ?_
  refine o_lstore X0 hx (hb hby at_45) (Ls' := #[.val (.long u0), .second, .val (.long u1), .second, .val (.long v0), .second, .val (.long v1), .second, .val (.int sel), .val (.long z0), .second, .val (.long z1), .second, .val (.long m0), .second, .val (.long (((v1).toUInt64 >>> (((sel.toUInt32 >>> (18 : UInt32)).toInt32 &&& (63 : Int32)) &&& 0x3f).toInt64.toUInt64).toInt64)), .second, .unset, .unset, .unset, .unset, .unset, .unset, .unset, .unset, .unset, .unset, .unset, .unset, .unset, .unset, .unset, .unset, .unset, .unset, .unset, .unset, .unset]) rfl (n := 47) rfl ?_
  generalize h_m1 : ((v1).toUInt64 >>> (((sel.toUInt32 >>> (18 : UInt32)).toInt32 &&& (63 : Int32)) &&& 0x3f).toInt64.toUInt64).toInt64 = m1
  obtain ⟨D, hD⟩ : ∃ D, D = o_widen o_C1 m0 m1 := ⟨_, rfl⟩
  obtain ⟨nb0, hb0⟩ : ∃ b, b = o_wd (m0 + (1 : Int64)) := ⟨_, rfl⟩
  obtain ⟨nb1, hb1⟩ : ∃ b, b = o_wd (m1 + (1 : Int64)) := ⟨_, rfl⟩
  obtain ⟨O, N, tt, eb0, eb1, lo0, l0, lo1, l1, hP, hT⟩ := o_one hD hb0 hb1
  refine o_new X0 hx hZ hown (hw _ (List.mem_of_getElem? (i := 0) rfl)) (hw _ (List.mem_of_getElem? (i := 1) rfl)) (hw _ (List.mem_of_getElem? (i := 2) rfl)) e0 (hb hby at_47) (by decide) (by decide) (n := 50) rfl ?_
  intro T1 h1 b1 X1 e1 g1 E1 A1 D1
  have gg1 : n0 ≤ b1 := Nat.le_trans Z0 (Nat.le_of_eq g1.symm)
  have zz1 : n0 ≤ h1.size := Nat.le_trans Z0 E1.1
  have f2 : Fld Z h1 b1 "com/example/marke/marke/analysis/MarkingLayout" "limits" "[J" .null := D1 (Or.inr (hw _ (List.mem_of_getElem? (i := 22) rfl))) (ty := (.array .long)) (by decide)
  have f3 : Fld Z h1 b1 "com/example/marke/marke/analysis/MarkingLayout" "places" "[I" .null := D1 (Or.inl (hw _ (List.mem_of_getElem? (i := 24) rfl))) (ty := (.array .int)) (by decide)
  have f4 : Fld Z h1 b1 "com/example/marke/marke/analysis/MarkingLayout" "lows" "[I" .null := D1 (Or.inl (hw _ (List.mem_of_getElem? (i := 26) rfl))) (ty := (.array .int)) (by decide)
  have f5 : Fld Z h1 b1 "com/example/marke/marke/analysis/MarkingLayout" "masks" "[J" .null := D1 (Or.inl (hw _ (List.mem_of_getElem? (i := 28) rfl))) (ty := (.array .long)) (by decide)
  have f6 : Fld Z h1 b1 "com/example/marke/marke/analysis/MarkingLayout" "words" "[I" .null := D1 (Or.inl (hw _ (List.mem_of_getElem? (i := 30) rfl))) (ty := (.array .int)) (by decide)
  have f7 : Fld Z h1 b1 "com/example/marke/marke/analysis/MarkingLayout" "shifts" "[I" .null := D1 (Or.inl (hw _ (List.mem_of_getElem? (i := 32) rfl))) (ty := (.array .int)) (by decide)
  have f8 : Fld Z h1 b1 "com/example/marke/marke/analysis/MarkingLayout" "nexts" "[I" .null := D1 (Or.inl (hw _ (List.mem_of_getElem? (i := 34) rfl))) (ty := (.array .int)) (by decide)
  have f9 : Fld Z h1 b1 "com/example/marke/marke/analysis/MarkingLayout" "tops" "[I" .null := D1 (Or.inl (hw _ (List.mem_of_getElem? (i := 36) rfl))) (ty := (.array .int)) (by decide)
  have f10 : Fld Z h1 b1 "com/example/marke/marke/analysis/MarkingLayout" "length" "I" (.int (0 : Int32)) := D1 (Or.inl (hw _ (List.mem_of_getElem? (i := 39) rfl))) (ty := .int) (by decide)
  have f11 : Fld Z h1 b1 "com/example/marke/marke/analysis/MarkingLayout" "pieces" "I" (.int (0 : Int32)) := D1 (Or.inl (hw _ (List.mem_of_getElem? (i := 49) rfl))) (ty := .int) (by decide)
  refine o_dup X1 hx (hb hby at_50) rfl (n := 51) rfl ?_
  refine o_iconst X1 hx (hb hby at_51) (v := (2 : Int32)) rfl (n := 52) rfl ?_
  refine o_callN X1 hx hZ rfl hown (hw _ (List.mem_of_getElem? (i := 3) rfl)) (hw _ (List.mem_of_getElem? (i := 4) rfl)) (hw _ (List.mem_of_getElem? (i := 2) rfl)) (hw _ (List.mem_of_getElem? (i := 5) rfl)) (by decide) e1 (a := b1) (argsL := [(.int (2 : Int32))]) (rest := [(.ref b1)]) (c_ini l Z a0 hw b1 h1 n0 zz1 gg1 A1 f2 f3 f4 f5 f6 f7 f8 f9 f11 f10) 1 (by decide) (by decide) (by decide) (by decide) (by rw [hml]; rfl) (lenOf o_pd10 rfl) rfl (Nat.le_of_eq rfl) (hb hby at_52) (n := 55) rfl ?_
  intro v12 T12 L12 X12 q12
  obtain ⟨A_12, rfl, Nq12, K12, sb12, L_12⟩ := q12
  have N13 := Fr.app N0 Nq12
  have zz12 : n0 ≤ T12.heap.size := Nat.le_trans zz1 K12.1
  show Goes p e below s _ _ _ (T12.setTop (mkF m 55 #[.val (.long u0), .second, .val (.long u1), .second, .val (.long v0), .second, .val (.long v1), .second, .val (.int sel), .val (.long z0), .second, .val (.long z1), .second, .val (.long m0), .second, .val (.long m1), .second, .unset, .unset, .unset, .unset, .unset, .unset, .unset, .unset, .unset, .unset, .unset, .unset, .unset, .unset, .unset, .unset, .unset, .unset, .unset, .unset, .unset] [(.ref b1)]))
  refine o_astore X12 hx (hb hby at_55) rfl (Ls' := #[.val (.long u0), .second, .val (.long u1), .second, .val (.long v0), .second, .val (.long v1), .second, .val (.int sel), .val (.long z0), .second, .val (.long z1), .second, .val (.long m0), .second, .val (.long m1), .second, .val (.ref b1), .unset, .unset, .unset, .unset, .unset, .unset, .unset, .unset, .unset, .unset, .unset, .unset, .unset, .unset, .unset, .unset, .unset, .unset, .unset, .unset]) rfl (n := 57) rfl ?_
  refine o_aload X12 hx (hb hby at_57) (v := (.ref b1)) rfl rfl (n := 59) rfl ?_
  refine o_iconst X12 hx (hb hby at_59) (v := (2 : Int32)) rfl (n := 60) rfl ?_
  refine o_newarray X12 hx hZ (aty := .long) (hw _ (List.mem_of_getElem? (i := 20) rfl)) (rfl : T12.heap = T12.heap) (hb hby at_60) (by decide) 2 (by decide) (by decide) (by decide) (by decide) (n := 62) rfl ?_
  intro T14 h14 b14 k14 X14 e14 g14 E14 V14
  have ni14 : b14 ∉ b1 :: A_12.all := L_12.nin (Nat.le_of_eq g14.symm)
  have gg14 : n0 ≤ b14 := Nat.le_trans zz12 (Nat.le_of_eq g14.symm)
  have zz14 : n0 ≤ h14.size := Nat.le_trans zz12 E14.1
  have L15 := L_12.ext E14
  have f16 : Arv Z h14 b14 k14 .long (2 : Int32) [(.long (0 : Int64)), (.long (0 : Int64))] (.long (0 : Int64)) := V14.pad (pad_rep [] (.long (0 : Int64)) 2)
  refine o_dup X14 hx (hb hby at_62) rfl (n := 63) rfl ?_
  refine o_iconst X14 hx (hb hby at_63) (v := (0 : Int32)) rfl (n := 64) rfl ?_
  refine o_lload X14 hx (hb hby at_64) (v := m0) rfl (n := 66) rfl ?_
  refine o_lastore X14 hx hZ e14 f16 (0) (by decide) (by decide) (Nat.le_of_ble_eq_true rfl) (w := (.long m0)) rfl (vs' := [(.long m0), (.long (0 : Int64))]) rfl (hb hby at_66) (n := 67) rfl ?_
  intro T17 h17 X17 e17 W17 V17
  have L18 := L15.other W17 ni14
  have zz17 : n0 ≤ h17.size := Nat.le_trans zz14 (Nat.le_of_eq W17.size.symm)
  have N19 := Fr.snoc X17 N13 gg14
  refine o_dup X17 hx (hb hby at_67) rfl (n := 68) rfl ?_
  refine o_iconst X17 hx (hb hby at_68) (v := (1 : Int32)) rfl (n := 69) rfl ?_
  refine o_lload X17 hx (hb hby at_69) (v := m1) rfl (n := 71) rfl ?_
  refine o_lastore X17 hx hZ e17 V17 (1) (by decide) (by decide) (Nat.le_of_ble_eq_true rfl) (w := (.long m1)) rfl (vs' := [(.long m0), (.long m1)]) rfl (hb hby at_71) (n := 72) rfl ?_
  intro T20 h20 X20 e20 W20 V20
  have L21 := L18.other W20 ni14
  have zz20 : n0 ≤ h20.size := Nat.le_trans zz17 (Nat.le_of_eq W20.size.symm)
  have N22 := Fr.snoc X20 N19 gg14
  refine o_callV X20 hx hZ hown (hw _ (List.mem_of_getElem? (i := 50) rfl)) (hw _ (List.mem_of_getElem? (i := 51) rfl)) (hw _ (List.mem_of_getElem? (i := 53) rfl)) (hw _ (List.mem_of_getElem? (i := 52) rfl)) (hw _ (List.mem_of_getElem? (i := 2) rfl)) (hw _ (List.mem_of_getElem? (i := 54) rfl)) (by decide) e20 L21.E (argsL := [(.ref b14)]) (rest := []) (c_widen l Z a0 hw b1 A_12 o_C1 b14 k14 m0 m1 h20 n0 zz20 L21 V20 ni14 o_ok1 (by decide)) 0 (by decide) (by decide) (by decide) (by decide) (by rw [hml]; rfl) (lenOf o_pd11 rfl) rfl (Nat.le_of_eq rfl) (hb hby at_72) (n := 75) rfl ?_
  intro v23 T23 L23 X23 q23
  obtain ⟨A_23, rfl, Nq23, K23, sb23, L_23⟩ := q23
  have N24 := Fr.app N22 Nq23
  have ni23_b14 : b14 ∉ b1 :: A_23.all := o_ninG ni14 V20.lt sb23
  have f25 := V20.keep K23 ni14
  have zz23 : n0 ≤ T23.heap.size := Nat.le_trans zz20 K23.1
  have L26 : o_L Z T23.heap n0 b1 A_23 D := by rw [hD]; exact L_23
  show Goes p e below s _ _ _ (T23.setTop (mkF m 75 #[.val (.long u0), .second, .val (.long u1), .second, .val (.long v0), .second, .val (.long v1), .second, .val (.int sel), .val (.long z0), .second, .val (.long z1), .second, .val (.long m0), .second, .val (.long m1), .second, .val (.ref b1), .unset, .unset, .unset, .unset, .unset, .unset, .unset, .unset, .unset, .unset, .unset, .unset, .unset, .unset, .unset, .unset, .unset, .unset, .unset, .unset] []))
  refine o_iconst X23 hx (hb hby at_75) (v := (4 : Int32)) rfl (n := 76) rfl ?_
  refine o_newarray X23 hx hZ (aty := .long) (hw _ (List.mem_of_getElem? (i := 20) rfl)) (rfl : T23.heap = T23.heap) (hb hby at_76) (by decide) 4 (by decide) (by decide) (by decide) (by decide) (n := 78) rfl ?_
  intro T27 h27 b27 k27 X27 e27 g27 E27 V27
  have ne28 : b14 ≠ b27 := Nat.ne_of_lt (Nat.lt_of_lt_of_eq f25.lt g27.symm)
  have ni27 : b27 ∉ b1 :: A_23.all := L26.nin (Nat.le_of_eq g27.symm)
  have gg27 : n0 ≤ b27 := Nat.le_trans zz23 (Nat.le_of_eq g27.symm)
  have zz27 : n0 ≤ h27.size := Nat.le_trans zz23 E27.1
  have L29 := L26.ext E27
  have f31 : Arv Z h27 b27 k27 .long (4 : Int32) [(.long (0 : Int64)), (.long (0 : Int64)), (.long (0 : Int64)), (.long (0 : Int64))] (.long (0 : Int64)) := V27.pad (pad_rep [] (.long (0 : Int64)) 4)
  refine o_dup X27 hx (hb hby at_78) rfl (n := 79) rfl ?_
  refine o_iconst X27 hx (hb hby at_79) (v := (0 : Int32)) rfl (n := 80) rfl ?_
  refine o_ldc2_w X27 hx hZ (v := (-1 : Int64)) hown (hw _ (List.mem_of_getElem? (i := 91) rfl)) (hb hby at_80) (n := 83) rfl ?_
  refine o_lastore X27 hx hZ e27 f31 (0) (by decide) (by decide) (Nat.le_of_ble_eq_true rfl) (w := (.long (-1 : Int64))) rfl (vs' := [(.long (-1 : Int64)), (.long (0 : Int64)), (.long (0 : Int64)), (.long (0 : Int64))]) rfl (hb hby at_83) (n := 84) rfl ?_
  intro T32 h32 X32 e32 W32 V32
  have L33 := L29.other W32 ni27
  have zz32 : n0 ≤ h32.size := Nat.le_trans zz27 (Nat.le_of_eq W32.size.symm)
  have N35 := Fr.snoc X32 N24 gg27
  refine o_dup X32 hx (hb hby at_84) rfl (n := 85) rfl ?_
  refine o_iconst X32 hx (hb hby at_85) (v := (1 : Int32)) rfl (n := 86) rfl ?_
  refine o_ldc2_w X32 hx hZ (v := (-1 : Int64)) hown (hw _ (List.mem_of_getElem? (i := 91) rfl)) (hb hby at_86) (n := 89) rfl ?_
  refine o_lastore X32 hx hZ e32 V32 (1) (by decide) (by decide) (Nat.le_of_ble_eq_true rfl) (w := (.long (-1 : Int64))) rfl (vs' := [(.long (-1 : Int64)), (.long (-1 : Int64)), (.long (0 : Int64)), (.long (0 : Int64))]) rfl (hb hby at_89) (n := 90) rfl ?_
  intro T36 h36 X36 e36 W36 V36
  have L37 := L33.other W36 ni27
  have zz36 : n0 ≤ h36.size := Nat.le_trans zz32 (Nat.le_of_eq W36.size.symm)
  have N39 := Fr.snoc X36 N35 gg27
  refine o_dup X36 hx (hb hby at_90) rfl (n := 91) rfl ?_
  refine o_iconst X36 hx (hb hby at_91) (v := (2 : Int32)) rfl (n := 92) rfl ?_
  refine o_ldc2_w X36 hx hZ (v := (-1 : Int64)) hown (hw _ (List.mem_of_getElem? (i := 91) rfl)) (hb hby at_92) (n := 95) rfl ?_
  refine o_lastore X36 hx hZ e36 V36 (2) (by decide) (by decide) (Nat.le_of_ble_eq_true rfl) (w := (.long (-1 : Int64))) rfl (vs' := [(.long (-1 : Int64)), (.long (-1 : Int64)), (.long (-1 : Int64)), (.long (0 : Int64))]) rfl (hb hby at_95) (n := 96) rfl ?_
  intro T40 h40 X40 e40 W40 V40
  have L41 := L37.other W40 ni27
  have zz40 : n0 ≤ h40.size := Nat.le_trans zz36 (Nat.le_of_eq W40.size.symm)
  have N43 := Fr.snoc X40 N39 gg27
  refine o_dup X40 hx (hb hby at_96) rfl (n := 97) rfl ?_
  refine o_iconst X40 hx (hb hby at_97) (v := (3 : Int32)) rfl (n := 98) rfl ?_
  refine o_ldc2_w X40 hx hZ (v := (-1 : Int64)) hown (hw _ (List.mem_of_getElem? (i := 91) rfl)) (hb hby at_98) (n := 101) rfl ?_
  refine o_lastore X40 hx hZ e40 V40 (3) (by decide) (by decide) (Nat.le_of_ble_eq_true rfl) (w := (.long (-1 : Int64))) rfl (vs' := [(.long (-1 : Int64)), (.long (-1 : Int64)), (.long (-1 : Int64)), (.long (-1 : Int64))]) rfl (hb hby at_101) (n := 102) rfl ?_
  intro T44 h44 X44 e44 W44 V44
  have L45 := L41.other W44 ni27
  have zz44 : n0 ≤ h44.size := Nat.le_trans zz40 (Nat.le_of_eq W44.size.symm)
  have N47 := Fr.snoc X44 N43 gg27
  refine o_astore X44 hx (hb hby at_102) rfl (Ls' := #[.val (.long u0), .second, .val (.long u1), .second, .val (.long v0), .second, .val (.long v1), .second, .val (.int sel), .val (.long z0), .second, .val (.long z1), .second, .val (.long m0), .second, .val (.long m1), .second, .val (.ref b1), .val (.ref b27), .unset, .unset, .unset, .unset, .unset, .unset, .unset, .unset, .unset, .unset, .unset, .unset, .unset, .unset, .unset, .unset, .unset, .unset, .unset]) rfl (n := 104) rfl ?_
  refine o_aload X44 hx (hb hby at_104) (v := (.ref b1)) rfl rfl (n := 106) rfl ?_
  refine o_iconst X44 hx (hb hby at_106) (v := (2 : Int32)) rfl (n := 107) rfl ?_
  refine o_newarray X44 hx hZ (aty := .long) (hw _ (List.mem_of_getElem? (i := 20) rfl)) e44 (hb hby at_107) (by decide) 2 (by decide) (by decide) (by decide) (by decide) (n := 109) rfl ?_
  intro T48 h48 b48 k48 X48 e48 g48 E48 V48
  have ne49 : b14 ≠ b48 := Nat.ne_of_lt (Nat.lt_of_lt_of_eq (((((f25.ext E27).other W32 ne28).other W36 ne28).other W40 ne28).other W44 ne28).lt g48.symm)
  have ne50 : b27 ≠ b48 := Nat.ne_of_lt (Nat.lt_of_lt_of_eq V44.lt g48.symm)
  have ni48 : b48 ∉ b1 :: A_23.all := L45.nin (Nat.le_of_eq g48.symm)
  have gg48 : n0 ≤ b48 := Nat.le_trans zz44 (Nat.le_of_eq g48.symm)
  have zz48 : n0 ≤ h48.size := Nat.le_trans zz44 E48.1
  have L51 := L45.ext E48
  have f54 : Arv Z h48 b48 k48 .long (2 : Int32) [(.long (0 : Int64)), (.long (0 : Int64))] (.long (0 : Int64)) := V48.pad (pad_rep [] (.long (0 : Int64)) 2)
  refine o_dup X48 hx (hb hby at_109) rfl (n := 110) rfl ?_
  refine o_iconst X48 hx (hb hby at_110) (v := (0 : Int32)) rfl (n := 111) rfl ?_
  refine o_lload X48 hx (hb hby at_111) (v := z0) rfl (n := 113) rfl ?_
  refine o_lastore X48 hx hZ e48 f54 (0) (by decide) (by decide) (Nat.le_of_ble_eq_true rfl) (w := (.long z0)) rfl (vs' := [(.long z0), (.long (0 : Int64))]) rfl (hb hby at_113) (n := 114) rfl ?_
  intro T55 h55 X55 e55 W55 V55
  have L56 := L51.other W55 ni48
  have zz55 : n0 ≤ h55.size := Nat.le_trans zz48 (Nat.le_of_eq W55.size.symm)
  have N59 := Fr.snoc X55 N47 gg48
  refine o_dup X55 hx (hb hby at_114) rfl (n := 115) rfl ?_
  refine o_iconst X55 hx (hb hby at_115) (v := (1 : Int32)) rfl (n := 116) rfl ?_
  refine o_lload X55 hx (hb hby at_116) (v := z1) rfl (n := 118) rfl ?_
  refine o_lastore X55 hx hZ e55 V55 (1) (by decide) (by decide) (Nat.le_of_ble_eq_true rfl) (w := (.long z1)) rfl (vs' := [(.long z0), (.long z1)]) rfl (hb hby at_118) (n := 119) rfl ?_
  intro T60 h60 X60 e60 W60 V60
  have L61 := L56.other W60 ni48
  have zz60 : n0 ≤ h60.size := Nat.le_trans zz55 (Nat.le_of_eq W60.size.symm)
  have N64 := Fr.snoc X60 N59 gg48
  refine o_aload X60 hx (hb hby at_119) (v := (.ref b27)) rfl rfl (n := 121) rfl ?_
  refine o_callV X60 hx hZ hown (hw _ (List.mem_of_getElem? (i := 92) rfl)) (hw _ (List.mem_of_getElem? (i := 93) rfl)) (hw _ (List.mem_of_getElem? (i := 95) rfl)) (hw _ (List.mem_of_getElem? (i := 94) rfl)) (hw _ (List.mem_of_getElem? (i := 2) rfl)) (hw _ (List.mem_of_getElem? (i := 96) rfl)) (by decide) e60 L61.E (argsL := [(.ref b48), (.ref b27)]) (rest := []) (c_pack l Z a0 hw b1 A_23 D b48 k48 z0 z1 b27 k27 4 o_N4 h60 n0 zz60 gg27 L61 V60 (((V44.ext E48).other W55 ne50).other W60 ne50) ni48 ni27 (Ne.symm ne50) O (Nat.le_trans N (by decide)) tt (by decide) rfl) 0 (by decide) (by decide) (by decide) (by decide) (by rw [hml]; rfl) (lenOf o_pd12 rfl) rfl (Nat.le_of_eq rfl) (hb hby at_121) (n := 124) rfl ?_
  intro v65 T65 L65 X65 q65
  obtain ⟨rfl, Nq65, K65, o65⟩ := q65
  have N66 := Fr.app N64 Nq65
  have L67 := L61.keep K65 (allS (P := fun y => y ∉ b1 :: A_23.all) ni27 all0)
  have zz65 : n0 ≤ T65.heap.size := Nat.le_trans zz60 K65.1
  show Goes p e below s _ _ _ (T65.setTop (mkF m 124 #[.val (.long u0), .second, .val (.long u1), .second, .val (.long v0), .second, .val (.long v1), .second, .val (.int sel), .val (.long z0), .second, .val (.long z1), .second, .val (.long m0), .second, .val (.long m1), .second, .val (.ref b1), .val (.ref b27), .unset, .unset, .unset, .unset, .unset, .unset, .unset, .unset, .unset, .unset, .unset, .unset, .unset, .unset, .unset, .unset, .unset, .unset, .unset] [(.int (o_pr D z0 z1))]))
  refine o_istore X65 hx (hb hby at_124) (Ls' := #[.val (.long u0), .second, .val (.long u1), .second, .val (.long v0), .second, .val (.long v1), .second, .val (.int sel), .val (.long z0), .second, .val (.long z1), .second, .val (.long m0), .second, .val (.long m1), .second, .val (.ref b1), .val (.ref b27), .val (.int (o_pr D z0 z1)), .unset, .unset, .unset, .unset, .unset, .unset, .unset, .unset, .unset, .unset, .unset, .unset, .unset, .unset, .unset, .unset, .unset, .unset]) rfl (n := 126) rfl ?_
  refine o_lload X65 hx (hb hby at_126) (v := z0) rfl (n := 128) rfl ?_
  refine o_lconst X65 hx (hb hby at_128) (v := (1 : Int64)) rfl (n := 129) rfl ?_
  refine o_ladd X65 hx (hb hby at_129) (v := (z0 + (1 : Int64))) rfl (n := 130) rfl ?_
  refine o_lstore X65 hx (hb hby at_130) (Ls' := #[.val (.long u0), .second, .val (.long u1), .second, .val (.long v0), .second, .val (.long v1), .second, .val (.int sel), .val (.long z0), .second, .val (.long z1), .second, .val (.long m0), .second, .val (.long m1), .second, .val (.ref b1), .val (.ref b27), .val (.int (o_pr D z0 z1)), .val (.long (z0 + (1 : Int64))), .second, .unset, .unset, .unset, .unset, .unset, .unset, .unset, .unset, .unset, .unset, .unset, .unset, .unset, .unset, .unset, .unset]) rfl (n := 132) rfl ?_
  refine o_lload X65 hx (hb hby at_132) (v := z1) rfl (n := 134) rfl ?_
  refine o_lconst X65 hx (hb hby at_134) (v := (1 : Int64)) rfl (n := 135) rfl ?_
  refine o_ladd X65 hx (hb hby at_135) (v := (z1 + (1 : Int64))) rfl (n := 136) rfl ?_
  refine o_lstore X65 hx (hb hby at_136) (Ls' := #[.val (.long u0), .second, .val (.long u1), .second, .val (.long v0), .second, .val (.long v1), .second, .val (.int sel), .val (.long z0), .second, .val (.long z1), .second, .val (.long m0), .second, .val (.long m1), .second, .val (.ref b1), .val (.ref b27), .val (.int (o_pr D z0 z1)), .val (.long (z0 + (1 : Int64))), .second, .val (.long (z1 + (1 : Int64))), .second, .unset, .unset, .unset, .unset, .unset, .unset, .unset, .unset, .unset, .unset, .unset, .unset, .unset, .unset]) rfl (n := 138) rfl ?_
  refine o_lload X65 hx (hb hby at_138) (v := m0) rfl (n := 140) rfl ?_
  refine o_lconst X65 hx (hb hby at_140) (v := (1 : Int64)) rfl (n := 141) rfl ?_
  refine o_ladd X65 hx (hb hby at_141) (v := (m0 + (1 : Int64))) rfl (n := 142) rfl ?_
  refine o_callS X65 hx hZ hown (hw _ (List.mem_of_getElem? (i := 97) rfl)) (hw _ (List.mem_of_getElem? (i := 98) rfl)) (hw _ (List.mem_of_getElem? (i := 99) rfl)) (hw _ (List.mem_of_getElem? (i := 100) rfl)) (by decide) (rfl : T65.heap = T65.heap) (argsL := [(.long (m0 + (1 : Int64)))]) (rest := []) ((o_widthE hb0) ▸ c_width l Z a0 hw (m0 + (1 : Int64)) T65.heap) 0 (by decide) (by decide) (by decide) (by decide) (by rw [hml]; rfl) (lenOf o_pd9 rfl) rfl (Nat.le_of_eq rfl) (hb hby at_142) (n := 145) rfl ?_
  intro v71 T71 L71 X71 q71
  obtain ⟨rfl, e71, rfl⟩ := q71
  have N72 := Fr.app N66 (Fr.nil n0)
  show Goes p e below s _ _ _ (T71.setTop (mkF m 145 #[.val (.long u0), .second, .val (.long u1), .second, .val (.long v0), .second, .val (.long v1), .second, .val (.int sel), .val (.long z0), .second, .val (.long z1), .second, .val (.long m0), .second, .val (.long m1), .second, .val (.ref b1), .val (.ref b27), .val (.int (o_pr D z0 z1)), .val (.long (z0 + (1 : Int64))), .second, .val (.long (z1 + (1 : Int64))), .second, .unset, .unset, .unset, .unset, .unset, .unset, .unset, .unset, .unset, .unset, .unset, .unset, .unset, .unset] [(.int (n32 nb0))]))
  refine o_istore X71 hx (hb hby at_145) (Ls' := #[.val (.long u0), .second, .val (.long u1), .second, .val (.long v0), .second, .val (.long v1), .second, .val (.int sel), .val (.long z0), .second, .val (.long z1), .second, .val (.long m0), .second, .val (.long m1), .second, .val (.ref b1), .val (.ref b27), .val (.int (o_pr D z0 z1)), .val (.long (z0 + (1 : Int64))), .second, .val (.long (z1 + (1 : Int64))), .second, .val (.int (n32 nb0)), .unset, .unset, .unset, .unset, .unset, .unset, .unset, .unset, .unset, .unset, .unset, .unset, .unset]) rfl (n := 147) rfl ?_
  refine o_lload X71 hx (hb hby at_147) (v := m1) rfl (n := 149) rfl ?_
  refine o_lconst X71 hx (hb hby at_149) (v := (1 : Int64)) rfl (n := 150) rfl ?_
  refine o_ladd X71 hx (hb hby at_150) (v := (m1 + (1 : Int64))) rfl (n := 151) rfl ?_
  refine o_callS X71 hx hZ hown (hw _ (List.mem_of_getElem? (i := 97) rfl)) (hw _ (List.mem_of_getElem? (i := 98) rfl)) (hw _ (List.mem_of_getElem? (i := 99) rfl)) (hw _ (List.mem_of_getElem? (i := 100) rfl)) (by decide) e71 (argsL := [(.long (m1 + (1 : Int64)))]) (rest := []) ((o_widthE hb1) ▸ c_width l Z a0 hw (m1 + (1 : Int64)) T65.heap) 0 (by decide) (by decide) (by decide) (by decide) (by rw [hml]; rfl) (lenOf o_pd9 rfl) rfl (Nat.le_of_eq rfl) (hb hby at_151) (n := 154) rfl ?_
  intro v73 T73 L73 X73 q73
  obtain ⟨rfl, e73, rfl⟩ := q73
  have N74 := Fr.app N72 (Fr.nil n0)
  show Goes p e below s _ _ _ (T73.setTop (mkF m 154 #[.val (.long u0), .second, .val (.long u1), .second, .val (.long v0), .second, .val (.long v1), .second, .val (.int sel), .val (.long z0), .second, .val (.long z1), .second, .val (.long m0), .second, .val (.long m1), .second, .val (.ref b1), .val (.ref b27), .val (.int (o_pr D z0 z1)), .val (.long (z0 + (1 : Int64))), .second, .val (.long (z1 + (1 : Int64))), .second, .val (.int (n32 nb0)), .unset, .unset, .unset, .unset, .unset, .unset, .unset, .unset, .unset, .unset, .unset, .unset, .unset] [(.int (n32 nb1))]))
  refine o_istore X73 hx (hb hby at_154) (Ls' := #[.val (.long u0), .second, .val (.long u1), .second, .val (.long v0), .second, .val (.long v1), .second, .val (.int sel), .val (.long z0), .second, .val (.long z1), .second, .val (.long m0), .second, .val (.long m1), .second, .val (.ref b1), .val (.ref b27), .val (.int (o_pr D z0 z1)), .val (.long (z0 + (1 : Int64))), .second, .val (.long (z1 + (1 : Int64))), .second, .val (.int (n32 nb0)), .val (.int (n32 nb1)), .unset, .unset, .unset, .unset, .unset, .unset, .unset, .unset, .unset, .unset, .unset, .unset]) rfl (n := 156) rfl ?_
  have k206 : ∀ (T_ : State) (h_ : Heap) (Lc : List Loc) (ft : Int32), Stand p l e (room_1) s m #[(.long u0), (.long u1), (.long v0), (.long v1), (.int sel)] below meth c T_ Lc 27 148 → T_.heap = h_ → Fr n0 Lc → n0 ≤ h_.size → (Arv Z h_ b27 k27 .long 4 ((o_pk D o_N4 z0 z1).map Value.long) (.long 0)) → Goes p e below s (fun v h L => v = some (.int 1) ∧ Fr n0 L) (room_1).cells (room_1).slots (T_.setTop (mkF m 206 #[.val (.long u0), .second, .val (.long u1), .second, .val (.long v0), .second, .val (.long v1), .second, .val (.int sel), .val (.long z0), .second, .val (.long z1), .second, .val (.long m0), .second, .val (.long m1), .second, .val (.ref b1), .val (.ref b27), .val (.int (o_pr D z0 z1)), .val (.long (z0 + (1 : Int64))), .second, .val (.long (z1 + (1 : Int64))), .second, .val (.int (n32 nb0)), .val (.int (n32 nb1)), .val (.int ft), .unset, .unset, .unset, .unset, .unset, .unset, .unset, .unset, .unset, .unset, .unset] [])) := by
    intro T_ h_ Lc ft X_ e_ N_ zz_ pR_
    refine o_lload X_ hx (hb hby at_206) (v := (z0 + (1 : Int64))) rfl (n := 208) rfl ?_
    refine o_lconst X_ hx (hb hby at_208) (v := (1 : Int64)) rfl (n := 209) rfl ?_
    refine o_land X_ hx (hb hby at_209) (v := ((z0 + (1 : Int64)) &&& (1 : Int64))) rfl (n := 210) rfl ?_
    refine o_lload X_ hx (hb hby at_210) (v := (z1 + (1 : Int64))) rfl (n := 212) rfl ?_
    refine o_lconst X_ hx (hb hby at_212) (v := (1 : Int64)) rfl (n := 213) rfl ?_
    refine o_land X_ hx (hb hby at_213) (v := ((z1 + (1 : Int64)) &&& (1 : Int64))) rfl (n := 214) rfl ?_
    refine o_iconst X_ hx (hb hby at_214) (v := (1 : Int32)) rfl (n := 215) rfl ?_
    refine o_lshl X_ hx (hb hby at_215) (v := (((z1 + (1 : Int64)) &&& (1 : Int64)) <<< (1 : Int64))) (congrArg (fun q : Int64 => ((z1 + (1 : Int64)) &&& (1 : Int64)) <<< q) (show ((1 : Int32) &&& 0x3f).toInt64 = 1 by decide)) (n := 216) rfl ?_
    refine o_lor X_ hx (hb hby at_216) (v := (o_e0 (z0 + (1 : Int64)) (z1 + (1 : Int64)))) rfl (n := 217) rfl ?_
    refine o_lstore X_ hx (hb hby at_217) (Ls' := #[.val (.long u0), .second, .val (.long u1), .second, .val (.long v0), .second, .val (.long v1), .second, .val (.int sel), .val (.long z0), .second, .val (.long z1), .second, .val (.long m0), .second, .val (.long m1), .second, .val (.ref b1), .val (.ref b27), .val (.int (o_pr D z0 z1)), .val (.long (z0 + (1 : Int64))), .second, .val (.long (z1 + (1 : Int64))), .second, .val (.int (n32 nb0)), .val (.int (n32 nb1)), .val (.int ft), .val (.long (o_e0 (z0 + (1 : Int64)) (z1 + (1 : Int64)))), .second, .unset, .unset, .unset, .unset, .unset, .unset, .unset, .unset, .unset]) rfl (n := 219) rfl ?_
    refine o_lconst X_ hx (hb hby at_219) (v := (0 : Int64)) rfl (n := 220) rfl ?_
    refine o_lstore X_ hx (hb hby at_220) (Ls' := #[.val (.long u0), .second, .val (.long u1), .second, .val (.long v0), .second, .val (.long v1), .second, .val (.int sel), .val (.long z0), .second, .val (.long z1), .second, .val (.long m0), .second, .val (.long m1), .second, .val (.ref b1), .val (.ref b27), .val (.int (o_pr D z0 z1)), .val (.long (z0 + (1 : Int64))), .second, .val (.long (z1 + (1 : Int64))), .second, .val (.int (n32 nb0)), .val (.int (n32 nb1)), .val (.int ft), .val (.long (o_e0 (z0 + (1 : Int64)) (z1 + (1 : Int64)))), .second, .val (.long (0 : Int64)), .second, .unset, .unset, .unset, .unset, .unset, .unset, .unset]) rfl (n := 222) rfl ?_
    refine o_lconst X_ hx (hb hby at_222) (v := (0 : Int64)) rfl (n := 223) rfl ?_
    refine o_lstore X_ hx (hb hby at_223) (Ls' := #[.val (.long u0), .second, .val (.long u1), .second, .val (.long v0), .second, .val (.long v1), .second, .val (.int sel), .val (.long z0), .second, .val (.long z1), .second, .val (.long m0), .second, .val (.long m1), .second, .val (.ref b1), .val (.ref b27), .val (.int (o_pr D z0 z1)), .val (.long (z0 + (1 : Int64))), .second, .val (.long (z1 + (1 : Int64))), .second, .val (.int (n32 nb0)), .val (.int (n32 nb1)), .val (.int ft), .val (.long (o_e0 (z0 + (1 : Int64)) (z1 + (1 : Int64)))), .second, .val (.long (0 : Int64)), .second, .val (.long (0 : Int64)), .second, .unset, .unset, .unset, .unset, .unset]) rfl (n := 225) rfl ?_
    refine o_iconst X_ hx (hb hby at_225) (v := (2 : Int32)) rfl (n := 226) rfl ?_
    refine o_istore X_ hx (hb hby at_226) (Ls' := #[.val (.long u0), .second, .val (.long u1), .second, .val (.long v0), .second, .val (.long v1), .second, .val (.int sel), .val (.long z0), .second, .val (.long z1), .second, .val (.long m0), .second, .val (.long m1), .second, .val (.ref b1), .val (.ref b27), .val (.int (o_pr D z0 z1)), .val (.long (z0 + (1 : Int64))), .second, .val (.long (z1 + (1 : Int64))), .second, .val (.int (n32 nb0)), .val (.int (n32 nb1)), .val (.int ft), .val (.long (o_e0 (z0 + (1 : Int64)) (z1 + (1 : Int64)))), .second, .val (.long (0 : Int64)), .second, .val (.long (0 : Int64)), .second, .val (.int (2 : Int32)), .unset, .unset, .unset, .unset]) rfl (n := 228) rfl ?_
    refine o_iconst X_ hx (hb hby at_228) (v := (1 : Int32)) rfl (n := 229) rfl ?_
    refine o_istore X_ hx (hb hby at_229) (Ls' := #[.val (.long u0), .second, .val (.long u1), .second, .val (.long v0), .second, .val (.long v1), .second, .val (.int sel), .val (.long z0), .second, .val (.long z1), .second, .val (.long m0), .second, .val (.long m1), .second, .val (.ref b1), .val (.ref b27), .val (.int (o_pr D z0 z1)), .val (.long (z0 + (1 : Int64))), .second, .val (.long (z1 + (1 : Int64))), .second, .val (.int (n32 nb0)), .val (.int (n32 nb1)), .val (.int ft), .val (.long (o_e0 (z0 + (1 : Int64)) (z1 + (1 : Int64)))), .second, .val (.long (0 : Int64)), .second, .val (.long (0 : Int64)), .second, .val (.int (2 : Int32)), .val (.int (1 : Int32)), .unset, .unset, .unset]) rfl (n := 231) rfl ?_
    refine o_iload X_ hx (hb hby at_231) (v := (n32 nb0)) rfl (n := 233) rfl ?_
    refine o_iconst X_ hx (hb hby at_233) (v := (1 : Int32)) rfl (n := 234) rfl ?_
    by_cases hc234 : (1 : Int32) < (n32 nb0)
    · refine o_icmpN X_ hx (hb hby at_234) (XT.ii_le_f hc234) (n := 237) rfl ?_
      have g0' : 1 < nb0 := (o_nlt (a := 1) (by decide) (Nat.lt_of_le_of_lt l0 (by decide))).mp hc234
      refine o_iload X_ hx (hb hby at_237) (v := (n32 nb0)) rfl (n := 239) rfl ?_
      refine o_iconst X_ hx (hb hby at_239) (v := (1 : Int32)) rfl (n := 240) rfl ?_
      refine o_isub X_ hx (hb hby at_240) (v := (n32 (nb0 - 1))) (o_nsub (b := 1) lo0 (Nat.lt_of_le_of_lt l0 (by decide))) (n := 241) rfl ?_
      refine o_istore X_ hx (hb hby at_241) (Ls' := #[.val (.long u0), .second, .val (.long u1), .second, .val (.long v0), .second, .val (.long v1), .second, .val (.int sel), .val (.long z0), .second, .val (.long z1), .second, .val (.long m0), .second, .val (.long m1), .second, .val (.ref b1), .val (.ref b27), .val (.int (o_pr D z0 z1)), .val (.long (z0 + (1 : Int64))), .second, .val (.long (z1 + (1 : Int64))), .second, .val (.int (n32 nb0)), .val (.int (n32 nb1)), .val (.int ft), .val (.long (o_e0 (z0 + (1 : Int64)) (z1 + (1 : Int64)))), .second, .val (.long (0 : Int64)), .second, .val (.long (0 : Int64)), .second, .val (.int (2 : Int32)), .val (.int (1 : Int32)), .val (.int (n32 (nb0 - 1))), .unset, .unset]) rfl (n := 243) rfl ?_
      refine o_lload X_ hx (hb hby at_243) (v := (z0 + (1 : Int64))) rfl (n := 245) rfl ?_
      refine o_iconst X_ hx (hb hby at_245) (v := (1 : Int32)) rfl (n := 246) rfl ?_
      refine o_lushr X_ hx (hb hby at_246) (v := (o_shr (z0 + (1 : Int64)) (n32 1))) rfl (n := 247) rfl ?_
      refine o_iload X_ hx (hb hby at_247) (v := (n32 (nb0 - 1))) rfl (n := 249) rfl ?_
      refine o_callS X_ hx hZ hown (hw _ (List.mem_of_getElem? (i := 106) rfl)) (hw _ (List.mem_of_getElem? (i := 107) rfl)) (hw _ (List.mem_of_getElem? (i := 99) rfl)) (hw _ (List.mem_of_getElem? (i := 108) rfl)) (by decide) e_ (argsL := [(.int (n32 (nb0 - 1)))]) (rest := [(.long (o_shr (z0 + (1 : Int64)) (n32 1)))]) ((o_onM (o_km g0') (Nat.le_trans (Nat.sub_le _ _) l0)) ▸ c_ones l Z a0 hw (n32 (nb0 - 1)) h_) 2 (by decide) (by decide) (by decide) (by decide) (by rw [hml]; rfl) (lenOf o_pd13 rfl) rfl (Nat.le_of_eq rfl) (hb hby at_249) (n := 252) rfl ?_
      intro v75 T75 L75 X75 q75
      obtain ⟨rfl, e75, rfl⟩ := q75
      have N76 := Fr.app N_ (Fr.nil n0)
      show Goes p e below s _ _ _ (T75.setTop (mkF m 252 #[.val (.long u0), .second, .val (.long u1), .second, .val (.long v0), .second, .val (.long v1), .second, .val (.int sel), .val (.long z0), .second, .val (.long z1), .second, .val (.long m0), .second, .val (.long m1), .second, .val (.ref b1), .val (.ref b27), .val (.int (o_pr D z0 z1)), .val (.long (z0 + (1 : Int64))), .second, .val (.long (z1 + (1 : Int64))), .second, .val (.int (n32 nb0)), .val (.int (n32 nb1)), .val (.int ft), .val (.long (o_e0 (z0 + (1 : Int64)) (z1 + (1 : Int64)))), .second, .val (.long (0 : Int64)), .second, .val (.long (0 : Int64)), .second, .val (.int (2 : Int32)), .val (.int (1 : Int32)), .val (.int (n32 (nb0 - 1))), .unset, .unset] [(.long (o_mk (n32 (nb0 - 1)))), (.long (o_shr (z0 + (1 : Int64)) (n32 1)))]))
      refine o_land X75 hx (hb hby at_252) (v := (o_v (z0 + (1 : Int64)) (nb0 - 1))) rfl (n := 253) rfl ?_
      refine o_lstore X75 hx (hb hby at_253) (Ls' := #[.val (.long u0), .second, .val (.long u1), .second, .val (.long v0), .second, .val (.long v1), .second, .val (.int sel), .val (.long z0), .second, .val (.long z1), .second, .val (.long m0), .second, .val (.long m1), .second, .val (.ref b1), .val (.ref b27), .val (.int (o_pr D z0 z1)), .val (.long (z0 + (1 : Int64))), .second, .val (.long (z1 + (1 : Int64))), .second, .val (.int (n32 nb0)), .val (.int (n32 nb1)), .val (.int ft), .val (.long (o_e0 (z0 + (1 : Int64)) (z1 + (1 : Int64)))), .second, .val (.long (0 : Int64)), .second, .val (.long (0 : Int64)), .second, .val (.int (2 : Int32)), .val (.int (1 : Int32)), .val (.int (n32 (nb0 - 1))), .val (.long (o_v (z0 + (1 : Int64)) (nb0 - 1))), .second]) rfl (n := 255) rfl ?_
      refine o_iload X75 hx (hb hby at_255) (v := (2 : Int32)) rfl (n := 257) rfl ?_
      refine o_iload X75 hx (hb hby at_257) (v := (n32 (nb0 - 1))) rfl (n := 259) rfl ?_
      refine o_iadd X75 hx (hb hby at_259) (v := (n32 (2 + (nb0 - 1)))) (o_nadd 2 _) (n := 260) rfl ?_
      refine o_bipush X75 hx (hb hby at_260) (v := (64 : Int32)) rfl (n := 262) rfl ?_
      by_cases hc262 : (64 : Int32) < (n32 (2 + (nb0 - 1)))
      · refine o_icmpY X75 hx (hb hby at_262) (XT.ii_gt_t hc262) (by decide) (n := 285) (by decide) ?_
        refine o_lload X75 hx (hb hby at_285) (v := (0 : Int64)) rfl (n := 287) rfl ?_
        refine o_lload X75 hx (hb hby at_287) (v := (o_v (z0 + (1 : Int64)) (nb0 - 1))) rfl (n := 289) rfl ?_
        refine o_lor X75 hx (hb hby at_289) (v := ((0 : Int64) ||| (o_v (z0 + (1 : Int64)) (nb0 - 1)))) rfl (n := 290) rfl ?_
        refine o_lstore X75 hx (hb hby at_290) (Ls' := #[.val (.long u0), .second, .val (.long u1), .second, .val (.long v0), .second, .val (.long v1), .second, .val (.int sel), .val (.long z0), .second, .val (.long z1), .second, .val (.long m0), .second, .val (.long m1), .second, .val (.ref b1), .val (.ref b27), .val (.int (o_pr D z0 z1)), .val (.long (z0 + (1 : Int64))), .second, .val (.long (z1 + (1 : Int64))), .second, .val (.int (n32 nb0)), .val (.int (n32 nb1)), .val (.int ft), .val (.long (o_e0 (z0 + (1 : Int64)) (z1 + (1 : Int64)))), .second, .val (.long ((0 : Int64) ||| (o_v (z0 + (1 : Int64)) (nb0 - 1)))), .second, .val (.long (0 : Int64)), .second, .val (.int (2 : Int32)), .val (.int (1 : Int32)), .val (.int (n32 (nb0 - 1))), .val (.long (o_v (z0 + (1 : Int64)) (nb0 - 1))), .second]) rfl (n := 292) rfl ?_
        refine o_iconst X75 hx (hb hby at_292) (v := (2 : Int32)) rfl (n := 293) rfl ?_
        refine o_istore X75 hx (hb hby at_293) (Ls' := #[.val (.long u0), .second, .val (.long u1), .second, .val (.long v0), .second, .val (.long v1), .second, .val (.int sel), .val (.long z0), .second, .val (.long z1), .second, .val (.long m0), .second, .val (.long m1), .second, .val (.ref b1), .val (.ref b27), .val (.int (o_pr D z0 z1)), .val (.long (z0 + (1 : Int64))), .second, .val (.long (z1 + (1 : Int64))), .second, .val (.int (n32 nb0)), .val (.int (n32 nb1)), .val (.int ft), .val (.long (o_e0 (z0 + (1 : Int64)) (z1 + (1 : Int64)))), .second, .val (.long ((0 : Int64) ||| (o_v (z0 + (1 : Int64)) (nb0 - 1)))), .second, .val (.long (0 : Int64)), .second, .val (.int (2 : Int32)), .val (.int (2 : Int32)), .val (.int (n32 (nb0 - 1))), .val (.long (o_v (z0 + (1 : Int64)) (nb0 - 1))), .second]) rfl (n := 295) rfl ?_
        refine o_iload X75 hx (hb hby at_295) (v := (n32 nb1)) rfl (n := 297) rfl ?_
        refine o_iconst X75 hx (hb hby at_297) (v := (1 : Int32)) rfl (n := 298) rfl ?_
        by_cases hc298 : (1 : Int32) < (n32 nb1)
        · refine o_icmpN X75 hx (hb hby at_298) (XT.ii_le_f hc298) (n := 301) rfl ?_
          have g1' : 1 < nb1 := (o_nlt (a := 1) (by decide) (Nat.lt_of_le_of_lt l1 (by decide))).mp hc298
          refine o_iload X75 hx (hb hby at_301) (v := (n32 nb1)) rfl (n := 303) rfl ?_
          refine o_iconst X75 hx (hb hby at_303) (v := (1 : Int32)) rfl (n := 304) rfl ?_
          refine o_isub X75 hx (hb hby at_304) (v := (n32 (nb1 - 1))) (o_nsub (b := 1) lo1 (Nat.lt_of_le_of_lt l1 (by decide))) (n := 305) rfl ?_
          refine o_istore X75 hx (hb hby at_305) (Ls' := #[.val (.long u0), .second, .val (.long u1), .second, .val (.long v0), .second, .val (.long v1), .second, .val (.int sel), .val (.long z0), .second, .val (.long z1), .second, .val (.long m0), .second, .val (.long m1), .second, .val (.ref b1), .val (.ref b27), .val (.int (o_pr D z0 z1)), .val (.long (z0 + (1 : Int64))), .second, .val (.long (z1 + (1 : Int64))), .second, .val (.int (n32 nb0)), .val (.int (n32 nb1)), .val (.int ft), .val (.long (o_e0 (z0 + (1 : Int64)) (z1 + (1 : Int64)))), .second, .val (.long ((0 : Int64) ||| (o_v (z0 + (1 : Int64)) (nb0 - 1)))), .second, .val (.long (0 : Int64)), .second, .val (.int (2 : Int32)), .val (.int (2 : Int32)), .val (.int (n32 (nb1 - 1))), .val (.long (o_v (z0 + (1 : Int64)) (nb0 - 1))), .second]) rfl (n := 307) rfl ?_
          refine o_lload X75 hx (hb hby at_307) (v := (z1 + (1 : Int64))) rfl (n := 309) rfl ?_
          refine o_iconst X75 hx (hb hby at_309) (v := (1 : Int32)) rfl (n := 310) rfl ?_
          refine o_lushr X75 hx (hb hby at_310) (v := (o_shr (z1 + (1 : Int64)) (n32 1))) rfl (n := 311) rfl ?_
          refine o_iload X75 hx (hb hby at_311) (v := (n32 (nb1 - 1))) rfl (n := 313) rfl ?_
          refine o_callS X75 hx hZ hown (hw _ (List.mem_of_getElem? (i := 106) rfl)) (hw _ (List.mem_of_getElem? (i := 107) rfl)) (hw _ (List.mem_of_getElem? (i := 99) rfl)) (hw _ (List.mem_of_getElem? (i := 108) rfl)) (by decide) e75 (argsL := [(.int (n32 (nb1 - 1)))]) (rest := [(.long (o_shr (z1 + (1 : Int64)) (n32 1)))]) ((o_onM (o_km g1') (Nat.le_trans (Nat.sub_le _ _) l1)) ▸ c_ones l Z a0 hw (n32 (nb1 - 1)) h_) 2 (by decide) (by decide) (by decide) (by decide) (by rw [hml]; rfl) (lenOf o_pd13 rfl) rfl (Nat.le_of_eq rfl) (hb hby at_313) (n := 316) rfl ?_
          intro v77 T77 L77 X77 q77
          obtain ⟨rfl, e77, rfl⟩ := q77
          have N78 := Fr.app N76 (Fr.nil n0)
          show Goes p e below s _ _ _ (T77.setTop (mkF m 316 #[.val (.long u0), .second, .val (.long u1), .second, .val (.long v0), .second, .val (.long v1), .second, .val (.int sel), .val (.long z0), .second, .val (.long z1), .second, .val (.long m0), .second, .val (.long m1), .second, .val (.ref b1), .val (.ref b27), .val (.int (o_pr D z0 z1)), .val (.long (z0 + (1 : Int64))), .second, .val (.long (z1 + (1 : Int64))), .second, .val (.int (n32 nb0)), .val (.int (n32 nb1)), .val (.int ft), .val (.long (o_e0 (z0 + (1 : Int64)) (z1 + (1 : Int64)))), .second, .val (.long ((0 : Int64) ||| (o_v (z0 + (1 : Int64)) (nb0 - 1)))), .second, .val (.long (0 : Int64)), .second, .val (.int (2 : Int32)), .val (.int (2 : Int32)), .val (.int (n32 (nb1 - 1))), .val (.long (o_v (z0 + (1 : Int64)) (nb0 - 1))), .second] [(.long (o_mk (n32 (nb1 - 1)))), (.long (o_shr (z1 + (1 : Int64)) (n32 1)))]))
          refine o_land X77 hx (hb hby at_316) (v := (o_v (z1 + (1 : Int64)) (nb1 - 1))) rfl (n := 317) rfl ?_
          refine o_lstore X77 hx (hb hby at_317) (Ls' := #[.val (.long u0), .second, .val (.long u1), .second, .val (.long v0), .second, .val (.long v1), .second, .val (.int sel), .val (.long z0), .second, .val (.long z1), .second, .val (.long m0), .second, .val (.long m1), .second, .val (.ref b1), .val (.ref b27), .val (.int (o_pr D z0 z1)), .val (.long (z0 + (1 : Int64))), .second, .val (.long (z1 + (1 : Int64))), .second, .val (.int (n32 nb0)), .val (.int (n32 nb1)), .val (.int ft), .val (.long (o_e0 (z0 + (1 : Int64)) (z1 + (1 : Int64)))), .second, .val (.long ((0 : Int64) ||| (o_v (z0 + (1 : Int64)) (nb0 - 1)))), .second, .val (.long (0 : Int64)), .second, .val (.int (2 : Int32)), .val (.int (2 : Int32)), .val (.int (n32 (nb1 - 1))), .val (.long (o_v (z1 + (1 : Int64)) (nb1 - 1))), .second]) rfl (n := 319) rfl ?_
          refine o_iload X77 hx (hb hby at_319) (v := (2 : Int32)) rfl (n := 321) rfl ?_
          refine o_iload X77 hx (hb hby at_321) (v := (n32 (nb1 - 1))) rfl (n := 323) rfl ?_
          refine o_iadd X77 hx (hb hby at_323) (v := (n32 (2 + (nb1 - 1)))) (o_nadd 2 _) (n := 324) rfl ?_
          refine o_bipush X77 hx (hb hby at_324) (v := (64 : Int32)) rfl (n := 326) rfl ?_
          by_cases hc326 : (64 : Int32) < (n32 (2 + (nb1 - 1)))
          · refine o_icmpY X77 hx (hb hby at_326) (XT.ii_gt_t hc326) (by decide) (n := 349) (by decide) ?_
            refine o_iload X77 hx (hb hby at_349) (v := (2 : Int32)) rfl (n := 351) rfl ?_
            refine o_iconst X77 hx (hb hby at_351) (v := (1 : Int32)) rfl (n := 352) rfl ?_
            refine o_icmpY X77 hx (hb hby at_352) (XT.ii_ne_t (by decide)) (by decide) (n := 368) (by decide) ?_
            refine o_lload X77 hx (hb hby at_368) (v := (0 : Int64)) rfl (n := 370) rfl ?_
            refine o_lload X77 hx (hb hby at_370) (v := (o_v (z1 + (1 : Int64)) (nb1 - 1))) rfl (n := 372) rfl ?_
            refine o_lor X77 hx (hb hby at_372) (v := ((0 : Int64) ||| (o_v (z1 + (1 : Int64)) (nb1 - 1)))) rfl (n := 373) rfl ?_
            refine o_lstore X77 hx (hb hby at_373) (Ls' := #[.val (.long u0), .second, .val (.long u1), .second, .val (.long v0), .second, .val (.long v1), .second, .val (.int sel), .val (.long z0), .second, .val (.long z1), .second, .val (.long m0), .second, .val (.long m1), .second, .val (.ref b1), .val (.ref b27), .val (.int (o_pr D z0 z1)), .val (.long (z0 + (1 : Int64))), .second, .val (.long (z1 + (1 : Int64))), .second, .val (.int (n32 nb0)), .val (.int (n32 nb1)), .val (.int ft), .val (.long (o_e0 (z0 + (1 : Int64)) (z1 + (1 : Int64)))), .second, .val (.long ((0 : Int64) ||| (o_v (z0 + (1 : Int64)) (nb0 - 1)))), .second, .val (.long ((0 : Int64) ||| (o_v (z1 + (1 : Int64)) (nb1 - 1)))), .second, .val (.int (2 : Int32)), .val (.int (2 : Int32)), .val (.int (n32 (nb1 - 1))), .val (.long (o_v (z1 + (1 : Int64)) (nb1 - 1))), .second]) rfl (n := 375) rfl ?_
            refine o_iconst X77 hx (hb hby at_375) (v := (3 : Int32)) rfl (n := 376) rfl ?_
            refine o_istore X77 hx (hb hby at_376) (Ls' := #[.val (.long u0), .second, .val (.long u1), .second, .val (.long v0), .second, .val (.long v1), .second, .val (.int sel), .val (.long z0), .second, .val (.long z1), .second, .val (.long m0), .second, .val (.long m1), .second, .val (.ref b1), .val (.ref b27), .val (.int (o_pr D z0 z1)), .val (.long (z0 + (1 : Int64))), .second, .val (.long (z1 + (1 : Int64))), .second, .val (.int (n32 nb0)), .val (.int (n32 nb1)), .val (.int ft), .val (.long (o_e0 (z0 + (1 : Int64)) (z1 + (1 : Int64)))), .second, .val (.long ((0 : Int64) ||| (o_v (z0 + (1 : Int64)) (nb0 - 1)))), .second, .val (.long ((0 : Int64) ||| (o_v (z1 + (1 : Int64)) (nb1 - 1)))), .second, .val (.int (2 : Int32)), .val (.int (3 : Int32)), .val (.int (n32 (nb1 - 1))), .val (.long (o_v (z1 + (1 : Int64)) (nb1 - 1))), .second]) rfl (n := 378) rfl ?_
            obtain ⟨w0, w1, w2, w3⟩ := o_csxx (z0 := z0) (z1 := z1) hP hT l0 l1 hc234 hc262 hc298 hc326
            refine o_iload X77 hx (hb hby at_378) (v := ft) rfl (n := 380) rfl ?_
            by_cases hc380 : ft = (0 : Int32)
            · refine o_ifY X77 hx (hb hby at_380) (XT.i0_eq_t hc380) (by decide) (n := 425) (by decide) ?_
              refine o_iconst X77 hx (hb hby at_425) (v := (1 : Int32)) rfl (n := 426) rfl ?_
              refine o_goto X77 hx (hb hby at_426) (by decide) (n := 430) (by decide) ?_
              refine o_istore X77 hx (hb hby at_430) (Ls' := #[.val (.long u0), .second, .val (.long u1), .second, .val (.long v0), .second, .val (.long v1), .second, .val (.int sel), .val (.long z0), .second, .val (.long z1), .second, .val (.long m0), .second, .val (.long m1), .second, .val (.ref b1), .val (.ref b27), .val (.int (o_pr D z0 z1)), .val (.long (z0 + (1 : Int64))), .second, .val (.long (z1 + (1 : Int64))), .second, .val (.int (n32 nb0)), .val (.int (n32 nb1)), .val (.int ft), .val (.long (o_e0 (z0 + (1 : Int64)) (z1 + (1 : Int64)))), .second, .val (.long ((0 : Int64) ||| (o_v (z0 + (1 : Int64)) (nb0 - 1)))), .second, .val (.long ((0 : Int64) ||| (o_v (z1 + (1 : Int64)) (nb1 - 1)))), .second, .val (.int (2 : Int32)), .val (.int (3 : Int32)), .val (.int (1 : Int32)), .val (.long (o_v (z1 + (1 : Int64)) (nb1 - 1))), .second]) rfl (n := 432) rfl ?_
              refine o_iload X77 hx (hb hby at_432) (v := (3 : Int32)) rfl (n := 434) rfl ?_
              refine o_iconst X77 hx (hb hby at_434) (v := (2 : Int32)) rfl (n := 435) rfl ?_
              refine o_icmpY X77 hx (hb hby at_435) (XT.ii_ge_t (by decide)) (by decide) (n := 449) (by decide) ?_
              refine o_iload X77 hx (hb hby at_449) (v := (3 : Int32)) rfl (n := 451) rfl ?_
              refine o_iconst X77 hx (hb hby at_451) (v := (3 : Int32)) rfl (n := 452) rfl ?_
              refine o_icmpY X77 hx (hb hby at_452) (XT.ii_ge_t (by decide)) (by decide) (n := 466) (by decide) ?_
              refine o_aload X77 hx (hb hby at_466) (v := (.ref b27)) rfl rfl (n := 468) rfl ?_
              refine o_iconst X77 hx (hb hby at_468) (v := (3 : Int32)) rfl (n := 469) rfl ?_
              refine o_laload X77 hx hZ e77 pR_ (3) (by decide) (by decide) (v := (.long ((o_pk D o_N4 z0 z1).getD 3 0))) (o_lgd _ _) (hb hby at_469) (n := 470) rfl ?_
              refine o_ldc2_w X77 hx hZ (v := (-1 : Int64)) hown (hw _ (List.mem_of_getElem? (i := 91) rfl)) (hb hby at_470) (n := 473) rfl ?_
              refine o_lcmp X77 hx (hb hby at_473) (n := 474) rfl ?_
              refine o_ifN X77 hx (hb hby at_474) (XT.ll_ne_f w3) (n := 477) rfl ?_
              refine o_iconst X77 hx (hb hby at_477) (v := (1 : Int32)) rfl (n := 478) rfl ?_
              refine o_goto X77 hx (hb hby at_478) (by decide) (n := 482) (by decide) ?_
              refine o_istore X77 hx (hb hby at_482) (Ls' := #[.val (.long u0), .second, .val (.long u1), .second, .val (.long v0), .second, .val (.long v1), .second, .val (.int sel), .val (.long z0), .second, .val (.long z1), .second, .val (.long m0), .second, .val (.long m1), .second, .val (.ref b1), .val (.ref b27), .val (.int (o_pr D z0 z1)), .val (.long (z0 + (1 : Int64))), .second, .val (.long (z1 + (1 : Int64))), .second, .val (.int (n32 nb0)), .val (.int (n32 nb1)), .val (.int ft), .val (.long (o_e0 (z0 + (1 : Int64)) (z1 + (1 : Int64)))), .second, .val (.long ((0 : Int64) ||| (o_v (z0 + (1 : Int64)) (nb0 - 1)))), .second, .val (.long ((0 : Int64) ||| (o_v (z1 + (1 : Int64)) (nb1 - 1)))), .second, .val (.int (2 : Int32)), .val (.int (3 : Int32)), .val (.int (1 : Int32)), .val (.int (1 : Int32)), .unset]) rfl (n := 484) rfl ?_
              refine o_iload X77 hx (hb hby at_484) (v := (1 : Int32)) rfl (n := 486) rfl ?_
              refine o_ifN X77 hx (hb hby at_486) (XT.i0_eq_f (by decide)) (n := 489) rfl ?_
              refine o_iload X77 hx (hb hby at_489) (v := (1 : Int32)) rfl (n := 491) rfl ?_
              refine o_ifN X77 hx (hb hby at_491) (XT.i0_eq_f (by decide)) (n := 494) rfl ?_
              refine o_iconst X77 hx (hb hby at_494) (v := (1 : Int32)) rfl (n := 495) rfl ?_
              refine o_goto X77 hx (hb hby at_495) (by decide) (n := 499) (by decide) ?_
              exact o_nreturn X77 hx hret hlk (t := .boolean) (by simp) (hb hby at_499) (by decide) (by decide) e77 ⟨rfl, N78⟩
            · refine o_ifN X77 hx (hb hby at_380) (XT.i0_eq_f hc380) (n := 383) rfl ?_
              refine o_aload X77 hx (hb hby at_383) (v := (.ref b27)) rfl rfl (n := 385) rfl ?_
              refine o_iconst X77 hx (hb hby at_385) (v := (0 : Int32)) rfl (n := 386) rfl ?_
              refine o_laload X77 hx hZ e77 pR_ (0) (by decide) (by decide) (v := (.long ((o_pk D o_N4 z0 z1).getD 0 0))) (o_lgd _ _) (hb hby at_386) (n := 387) rfl ?_
              refine o_lload X77 hx (hb hby at_387) (v := (o_e0 (z0 + (1 : Int64)) (z1 + (1 : Int64)))) rfl (n := 389) rfl ?_
              refine o_lcmp X77 hx (hb hby at_389) (n := 390) rfl ?_
              refine o_ifN X77 hx (hb hby at_390) (XT.ll_ne_f w0) (n := 393) rfl ?_
              refine o_iload X77 hx (hb hby at_393) (v := (3 : Int32)) rfl (n := 395) rfl ?_
              refine o_iconst X77 hx (hb hby at_395) (v := (2 : Int32)) rfl (n := 396) rfl ?_
              refine o_icmpN X77 hx (hb hby at_396) (XT.ii_lt_f (by decide)) (n := 399) rfl ?_
              refine o_aload X77 hx (hb hby at_399) (v := (.ref b27)) rfl rfl (n := 401) rfl ?_
              refine o_iconst X77 hx (hb hby at_401) (v := (1 : Int32)) rfl (n := 402) rfl ?_
              refine o_laload X77 hx hZ e77 pR_ (1) (by decide) (by decide) (v := (.long ((o_pk D o_N4 z0 z1).getD 1 0))) (o_lgd _ _) (hb hby at_402) (n := 403) rfl ?_
              refine o_lload X77 hx (hb hby at_403) (v := ((0 : Int64) ||| (o_v (z0 + (1 : Int64)) (nb0 - 1)))) rfl (n := 405) rfl ?_
              refine o_lcmp X77 hx (hb hby at_405) (n := 406) rfl ?_
              refine o_ifN X77 hx (hb hby at_406) (XT.ll_ne_f w1) (n := 409) rfl ?_
              refine o_iload X77 hx (hb hby at_409) (v := (3 : Int32)) rfl (n := 411) rfl ?_
              refine o_iconst X77 hx (hb hby at_411) (v := (3 : Int32)) rfl (n := 412) rfl ?_
              refine o_icmpN X77 hx (hb hby at_412) (XT.ii_lt_f (by decide)) (n := 415) rfl ?_
              refine o_aload X77 hx (hb hby at_415) (v := (.ref b27)) rfl rfl (n := 417) rfl ?_
              refine o_iconst X77 hx (hb hby at_417) (v := (2 : Int32)) rfl (n := 418) rfl ?_
              refine o_laload X77 hx hZ e77 pR_ (2) (by decide) (by decide) (v := (.long ((o_pk D o_N4 z0 z1).getD 2 0))) (o_lgd _ _) (hb hby at_418) (n := 419) rfl ?_
              refine o_lload X77 hx (hb hby at_419) (v := ((0 : Int64) ||| (o_v (z1 + (1 : Int64)) (nb1 - 1)))) rfl (n := 421) rfl ?_
              refine o_lcmp X77 hx (hb hby at_421) (n := 422) rfl ?_
              refine o_ifN X77 hx (hb hby at_422) (XT.ll_ne_f w2) (n := 425) rfl ?_
              refine o_iconst X77 hx (hb hby at_425) (v := (1 : Int32)) rfl (n := 426) rfl ?_
              refine o_goto X77 hx (hb hby at_426) (by decide) (n := 430) (by decide) ?_
              refine o_istore X77 hx (hb hby at_430) (Ls' := #[.val (.long u0), .second, .val (.long u1), .second, .val (.long v0), .second, .val (.long v1), .second, .val (.int sel), .val (.long z0), .second, .val (.long z1), .second, .val (.long m0), .second, .val (.long m1), .second, .val (.ref b1), .val (.ref b27), .val (.int (o_pr D z0 z1)), .val (.long (z0 + (1 : Int64))), .second, .val (.long (z1 + (1 : Int64))), .second, .val (.int (n32 nb0)), .val (.int (n32 nb1)), .val (.int ft), .val (.long (o_e0 (z0 + (1 : Int64)) (z1 + (1 : Int64)))), .second, .val (.long ((0 : Int64) ||| (o_v (z0 + (1 : Int64)) (nb0 - 1)))), .second, .val (.long ((0 : Int64) ||| (o_v (z1 + (1 : Int64)) (nb1 - 1)))), .second, .val (.int (2 : Int32)), .val (.int (3 : Int32)), .val (.int (1 : Int32)), .val (.long (o_v (z1 + (1 : Int64)) (nb1 - 1))), .second]) rfl (n := 432) rfl ?_
              refine o_iload X77 hx (hb hby at_432) (v := (3 : Int32)) rfl (n := 434) rfl ?_
              refine o_iconst X77 hx (hb hby at_434) (v := (2 : Int32)) rfl (n := 435) rfl ?_
              refine o_icmpY X77 hx (hb hby at_435) (XT.ii_ge_t (by decide)) (by decide) (n := 449) (by decide) ?_
              refine o_iload X77 hx (hb hby at_449) (v := (3 : Int32)) rfl (n := 451) rfl ?_
              refine o_iconst X77 hx (hb hby at_451) (v := (3 : Int32)) rfl (n := 452) rfl ?_
              refine o_icmpY X77 hx (hb hby at_452) (XT.ii_ge_t (by decide)) (by decide) (n := 466) (by decide) ?_
              refine o_aload X77 hx (hb hby at_466) (v := (.ref b27)) rfl rfl (n := 468) rfl ?_
              refine o_iconst X77 hx (hb hby at_468) (v := (3 : Int32)) rfl (n := 469) rfl ?_
              refine o_laload X77 hx hZ e77 pR_ (3) (by decide) (by decide) (v := (.long ((o_pk D o_N4 z0 z1).getD 3 0))) (o_lgd _ _) (hb hby at_469) (n := 470) rfl ?_
              refine o_ldc2_w X77 hx hZ (v := (-1 : Int64)) hown (hw _ (List.mem_of_getElem? (i := 91) rfl)) (hb hby at_470) (n := 473) rfl ?_
              refine o_lcmp X77 hx (hb hby at_473) (n := 474) rfl ?_
              refine o_ifN X77 hx (hb hby at_474) (XT.ll_ne_f w3) (n := 477) rfl ?_
              refine o_iconst X77 hx (hb hby at_477) (v := (1 : Int32)) rfl (n := 478) rfl ?_
              refine o_goto X77 hx (hb hby at_478) (by decide) (n := 482) (by decide) ?_
              refine o_istore X77 hx (hb hby at_482) (Ls' := #[.val (.long u0), .second, .val (.long u1), .second, .val (.long v0), .second, .val (.long v1), .second, .val (.int sel), .val (.long z0), .second, .val (.long z1), .second, .val (.long m0), .second, .val (.long m1), .second, .val (.ref b1), .val (.ref b27), .val (.int (o_pr D z0 z1)), .val (.long (z0 + (1 : Int64))), .second, .val (.long (z1 + (1 : Int64))), .second, .val (.int (n32 nb0)), .val (.int (n32 nb1)), .val (.int ft), .val (.long (o_e0 (z0 + (1 : Int64)) (z1 + (1 : Int64)))), .second, .val (.long ((0 : Int64) ||| (o_v (z0 + (1 : Int64)) (nb0 - 1)))), .second, .val (.long ((0 : Int64) ||| (o_v (z1 + (1 : Int64)) (nb1 - 1)))), .second, .val (.int (2 : Int32)), .val (.int (3 : Int32)), .val (.int (1 : Int32)), .val (.int (1 : Int32)), .unset]) rfl (n := 484) rfl ?_
              refine o_iload X77 hx (hb hby at_484) (v := (1 : Int32)) rfl (n := 486) rfl ?_
              refine o_ifN X77 hx (hb hby at_486) (XT.i0_eq_f (by decide)) (n := 489) rfl ?_
              refine o_iload X77 hx (hb hby at_489) (v := (1 : Int32)) rfl (n := 491) rfl ?_
              refine o_ifN X77 hx (hb hby at_491) (XT.i0_eq_f (by decide)) (n := 494) rfl ?_
              refine o_iconst X77 hx (hb hby at_494) (v := (1 : Int32)) rfl (n := 495) rfl ?_
              refine o_goto X77 hx (hb hby at_495) (by decide) (n := 499) (by decide) ?_
              exact o_nreturn X77 hx hret hlk (t := .boolean) (by simp) (hb hby at_499) (by decide) (by decide) e77 ⟨rfl, N78⟩
          · refine o_icmpN X77 hx (hb hby at_326) (XT.ii_gt_f hc326) (n := 329) rfl ?_
            refine o_lload X77 hx (hb hby at_329) (v := (o_e0 (z0 + (1 : Int64)) (z1 + (1 : Int64)))) rfl (n := 331) rfl ?_
            refine o_lload X77 hx (hb hby at_331) (v := (o_v (z1 + (1 : Int64)) (nb1 - 1))) rfl (n := 333) rfl ?_
            refine o_iload X77 hx (hb hby at_333) (v := (2 : Int32)) rfl (n := 335) rfl ?_
            refine o_lshl X77 hx (hb hby at_335) (v := (o_shl (o_v (z1 + (1 : Int64)) (nb1 - 1)) (n32 2))) rfl (n := 336) rfl ?_
            refine o_lor X77 hx (hb hby at_336) (v := ((o_e0 (z0 + (1 : Int64)) (z1 + (1 : Int64))) ||| (o_shl (o_v (z1 + (1 : Int64)) (nb1 - 1)) (n32 2)))) rfl (n := 337) rfl ?_
            refine o_lstore X77 hx (hb hby at_337) (Ls' := #[.val (.long u0), .second, .val (.long u1), .second, .val (.long v0), .second, .val (.long v1), .second, .val (.int sel), .val (.long z0), .second, .val (.long z1), .second, .val (.long m0), .second, .val (.long m1), .second, .val (.ref b1), .val (.ref b27), .val (.int (o_pr D z0 z1)), .val (.long (z0 + (1 : Int64))), .second, .val (.long (z1 + (1 : Int64))), .second, .val (.int (n32 nb0)), .val (.int (n32 nb1)), .val (.int ft), .val (.long ((o_e0 (z0 + (1 : Int64)) (z1 + (1 : Int64))) ||| (o_shl (o_v (z1 + (1 : Int64)) (nb1 - 1)) (n32 2)))), .second, .val (.long ((0 : Int64) ||| (o_v (z0 + (1 : Int64)) (nb0 - 1)))), .second, .val (.long (0 : Int64)), .second, .val (.int (2 : Int32)), .val (.int (2 : Int32)), .val (.int (n32 (nb1 - 1))), .val (.long (o_v (z1 + (1 : Int64)) (nb1 - 1))), .second]) rfl (n := 339) rfl ?_
            refine o_iload X77 hx (hb hby at_339) (v := (2 : Int32)) rfl (n := 341) rfl ?_
            refine o_iload X77 hx (hb hby at_341) (v := (n32 (nb1 - 1))) rfl (n := 343) rfl ?_
            refine o_iadd X77 hx (hb hby at_343) (v := (n32 (2 + (nb1 - 1)))) (o_nadd 2 _) (n := 344) rfl ?_
            refine o_istore X77 hx (hb hby at_344) (Ls' := #[.val (.long u0), .second, .val (.long u1), .second, .val (.long v0), .second, .val (.long v1), .second, .val (.int sel), .val (.long z0), .second, .val (.long z1), .second, .val (.long m0), .second, .val (.long m1), .second, .val (.ref b1), .val (.ref b27), .val (.int (o_pr D z0 z1)), .val (.long (z0 + (1 : Int64))), .second, .val (.long (z1 + (1 : Int64))), .second, .val (.int (n32 nb0)), .val (.int (n32 nb1)), .val (.int ft), .val (.long ((o_e0 (z0 + (1 : Int64)) (z1 + (1 : Int64))) ||| (o_shl (o_v (z1 + (1 : Int64)) (nb1 - 1)) (n32 2)))), .second, .val (.long ((0 : Int64) ||| (o_v (z0 + (1 : Int64)) (nb0 - 1)))), .second, .val (.long (0 : Int64)), .second, .val (.int (n32 (2 + (nb1 - 1)))), .val (.int (2 : Int32)), .val (.int (n32 (nb1 - 1))), .val (.long (o_v (z1 + (1 : Int64)) (nb1 - 1))), .second]) rfl (n := 346) rfl ?_
            refine o_goto X77 hx (hb hby at_346) (by decide) (n := 378) (by decide) ?_
            obtain ⟨w0, w1, w2, w3⟩ := o_csxf (z0 := z0) (z1 := z1) hP hT l0 l1 hc234 hc262 hc298 hc326
            refine o_iload X77 hx (hb hby at_378) (v := ft) rfl (n := 380) rfl ?_
            by_cases hc380 : ft = (0 : Int32)
            · refine o_ifY X77 hx (hb hby at_380) (XT.i0_eq_t hc380) (by decide) (n := 425) (by decide) ?_
              refine o_iconst X77 hx (hb hby at_425) (v := (1 : Int32)) rfl (n := 426) rfl ?_
              refine o_goto X77 hx (hb hby at_426) (by decide) (n := 430) (by decide) ?_
              refine o_istore X77 hx (hb hby at_430) (Ls' := #[.val (.long u0), .second, .val (.long u1), .second, .val (.long v0), .second, .val (.long v1), .second, .val (.int sel), .val (.long z0), .second, .val (.long z1), .second, .val (.long m0), .second, .val (.long m1), .second, .val (.ref b1), .val (.ref b27), .val (.int (o_pr D z0 z1)), .val (.long (z0 + (1 : Int64))), .second, .val (.long (z1 + (1 : Int64))), .second, .val (.int (n32 nb0)), .val (.int (n32 nb1)), .val (.int ft), .val (.long ((o_e0 (z0 + (1 : Int64)) (z1 + (1 : Int64))) ||| (o_shl (o_v (z1 + (1 : Int64)) (nb1 - 1)) (n32 2)))), .second, .val (.long ((0 : Int64) ||| (o_v (z0 + (1 : Int64)) (nb0 - 1)))), .second, .val (.long (0 : Int64)), .second, .val (.int (n32 (2 + (nb1 - 1)))), .val (.int (2 : Int32)), .val (.int (1 : Int32)), .val (.long (o_v (z1 + (1 : Int64)) (nb1 - 1))), .second]) rfl (n := 432) rfl ?_
              refine o_iload X77 hx (hb hby at_432) (v := (2 : Int32)) rfl (n := 434) rfl ?_
              refine o_iconst X77 hx (hb hby at_434) (v := (2 : Int32)) rfl (n := 435) rfl ?_
              refine o_icmpY X77 hx (hb hby at_435) (XT.ii_ge_t (by decide)) (by decide) (n := 449) (by decide) ?_
              refine o_iload X77 hx (hb hby at_449) (v := (2 : Int32)) rfl (n := 451) rfl ?_
              refine o_iconst X77 hx (hb hby at_451) (v := (3 : Int32)) rfl (n := 452) rfl ?_
              refine o_icmpN X77 hx (hb hby at_452) (XT.ii_ge_f (by decide)) (n := 455) rfl ?_
              refine o_aload X77 hx (hb hby at_455) (v := (.ref b27)) rfl rfl (n := 457) rfl ?_
              refine o_iconst X77 hx (hb hby at_457) (v := (2 : Int32)) rfl (n := 458) rfl ?_
              refine o_laload X77 hx hZ e77 pR_ (2) (by decide) (by decide) (v := (.long ((o_pk D o_N4 z0 z1).getD 2 0))) (o_lgd _ _) (hb hby at_458) (n := 459) rfl ?_
              refine o_ldc2_w X77 hx hZ (v := (-1 : Int64)) hown (hw _ (List.mem_of_getElem? (i := 91) rfl)) (hb hby at_459) (n := 462) rfl ?_
              refine o_lcmp X77 hx (hb hby at_462) (n := 463) rfl ?_
              refine o_ifN X77 hx (hb hby at_463) (XT.ll_ne_f w2) (n := 466) rfl ?_
              refine o_aload X77 hx (hb hby at_466) (v := (.ref b27)) rfl rfl (n := 468) rfl ?_
              refine o_iconst X77 hx (hb hby at_468) (v := (3 : Int32)) rfl (n := 469) rfl ?_
              refine o_laload X77 hx hZ e77 pR_ (3) (by decide) (by decide) (v := (.long ((o_pk D o_N4 z0 z1).getD 3 0))) (o_lgd _ _) (hb hby at_469) (n := 470) rfl ?_
              refine o_ldc2_w X77 hx hZ (v := (-1 : Int64)) hown (hw _ (List.mem_of_getElem? (i := 91) rfl)) (hb hby at_470) (n := 473) rfl ?_
              refine o_lcmp X77 hx (hb hby at_473) (n := 474) rfl ?_
              refine o_ifN X77 hx (hb hby at_474) (XT.ll_ne_f w3) (n := 477) rfl ?_
              refine o_iconst X77 hx (hb hby at_477) (v := (1 : Int32)) rfl (n := 478) rfl ?_
              refine o_goto X77 hx (hb hby at_478) (by decide) (n := 482) (by decide) ?_
              refine o_istore X77 hx (hb hby at_482) (Ls' := #[.val (.long u0), .second, .val (.long u1), .second, .val (.long v0), .second, .val (.long v1), .second, .val (.int sel), .val (.long z0), .second, .val (.long z1), .second, .val (.long m0), .second, .val (.long m1), .second, .val (.ref b1), .val (.ref b27), .val (.int (o_pr D z0 z1)), .val (.long (z0 + (1 : Int64))), .second, .val (.long (z1 + (1 : Int64))), .second, .val (.int (n32 nb0)), .val (.int (n32 nb1)), .val (.int ft), .val (.long ((o_e0 (z0 + (1 : Int64)) (z1 + (1 : Int64))) ||| (o_shl (o_v (z1 + (1 : Int64)) (nb1 - 1)) (n32 2)))), .second, .val (.long ((0 : Int64) ||| (o_v (z0 + (1 : Int64)) (nb0 - 1)))), .second, .val (.long (0 : Int64)), .second, .val (.int (n32 (2 + (nb1 - 1)))), .val (.int (2 : Int32)), .val (.int (1 : Int32)), .val (.int (1 : Int32)), .unset]) rfl (n := 484) rfl ?_
              refine o_iload X77 hx (hb hby at_484) (v := (1 : Int32)) rfl (n := 486) rfl ?_
              refine o_ifN X77 hx (hb hby at_486) (XT.i0_eq_f (by decide)) (n := 489) rfl ?_
              refine o_iload X77 hx (hb hby at_489) (v := (1 : Int32)) rfl (n := 491) rfl ?_
              refine o_ifN X77 hx (hb hby at_491) (XT.i0_eq_f (by decide)) (n := 494) rfl ?_
              refine o_iconst X77 hx (hb hby at_494) (v := (1 : Int32)) rfl (n := 495) rfl ?_
              refine o_goto X77 hx (hb hby at_495) (by decide) (n := 499) (by decide) ?_
              exact o_nreturn X77 hx hret hlk (t := .boolean) (by simp) (hb hby at_499) (by decide) (by decide) e77 ⟨rfl, N78⟩
            · refine o_ifN X77 hx (hb hby at_380) (XT.i0_eq_f hc380) (n := 383) rfl ?_
              refine o_aload X77 hx (hb hby at_383) (v := (.ref b27)) rfl rfl (n := 385) rfl ?_
              refine o_iconst X77 hx (hb hby at_385) (v := (0 : Int32)) rfl (n := 386) rfl ?_
              refine o_laload X77 hx hZ e77 pR_ (0) (by decide) (by decide) (v := (.long ((o_pk D o_N4 z0 z1).getD 0 0))) (o_lgd _ _) (hb hby at_386) (n := 387) rfl ?_
              refine o_lload X77 hx (hb hby at_387) (v := ((o_e0 (z0 + (1 : Int64)) (z1 + (1 : Int64))) ||| (o_shl (o_v (z1 + (1 : Int64)) (nb1 - 1)) (n32 2)))) rfl (n := 389) rfl ?_
              refine o_lcmp X77 hx (hb hby at_389) (n := 390) rfl ?_
              refine o_ifN X77 hx (hb hby at_390) (XT.ll_ne_f w0) (n := 393) rfl ?_
              refine o_iload X77 hx (hb hby at_393) (v := (2 : Int32)) rfl (n := 395) rfl ?_
              refine o_iconst X77 hx (hb hby at_395) (v := (2 : Int32)) rfl (n := 396) rfl ?_
              refine o_icmpN X77 hx (hb hby at_396) (XT.ii_lt_f (by decide)) (n := 399) rfl ?_
              refine o_aload X77 hx (hb hby at_399) (v := (.ref b27)) rfl rfl (n := 401) rfl ?_
              refine o_iconst X77 hx (hb hby at_401) (v := (1 : Int32)) rfl (n := 402) rfl ?_
              refine o_laload X77 hx hZ e77 pR_ (1) (by decide) (by decide) (v := (.long ((o_pk D o_N4 z0 z1).getD 1 0))) (o_lgd _ _) (hb hby at_402) (n := 403) rfl ?_
              refine o_lload X77 hx (hb hby at_403) (v := ((0 : Int64) ||| (o_v (z0 + (1 : Int64)) (nb0 - 1)))) rfl (n := 405) rfl ?_
              refine o_lcmp X77 hx (hb hby at_405) (n := 406) rfl ?_
              refine o_ifN X77 hx (hb hby at_406) (XT.ll_ne_f w1) (n := 409) rfl ?_
              refine o_iload X77 hx (hb hby at_409) (v := (2 : Int32)) rfl (n := 411) rfl ?_
              refine o_iconst X77 hx (hb hby at_411) (v := (3 : Int32)) rfl (n := 412) rfl ?_
              refine o_icmpY X77 hx (hb hby at_412) (XT.ii_lt_t (by decide)) (by decide) (n := 425) (by decide) ?_
              refine o_iconst X77 hx (hb hby at_425) (v := (1 : Int32)) rfl (n := 426) rfl ?_
              refine o_goto X77 hx (hb hby at_426) (by decide) (n := 430) (by decide) ?_
              refine o_istore X77 hx (hb hby at_430) (Ls' := #[.val (.long u0), .second, .val (.long u1), .second, .val (.long v0), .second, .val (.long v1), .second, .val (.int sel), .val (.long z0), .second, .val (.long z1), .second, .val (.long m0), .second, .val (.long m1), .second, .val (.ref b1), .val (.ref b27), .val (.int (o_pr D z0 z1)), .val (.long (z0 + (1 : Int64))), .second, .val (.long (z1 + (1 : Int64))), .second, .val (.int (n32 nb0)), .val (.int (n32 nb1)), .val (.int ft), .val (.long ((o_e0 (z0 + (1 : Int64)) (z1 + (1 : Int64))) ||| (o_shl (o_v (z1 + (1 : Int64)) (nb1 - 1)) (n32 2)))), .second, .val (.long ((0 : Int64) ||| (o_v (z0 + (1 : Int64)) (nb0 - 1)))), .second, .val (.long (0 : Int64)), .second, .val (.int (n32 (2 + (nb1 - 1)))), .val (.int (2 : Int32)), .val (.int (1 : Int32)), .val (.long (o_v (z1 + (1 : Int64)) (nb1 - 1))), .second]) rfl (n := 432) rfl ?_
              refine o_iload X77 hx (hb hby at_432) (v := (2 : Int32)) rfl (n := 434) rfl ?_
              refine o_iconst X77 hx (hb hby at_434) (v := (2 : Int32)) rfl (n := 435) rfl ?_
              refine o_icmpY X77 hx (hb hby at_435) (XT.ii_ge_t (by decide)) (by decide) (n := 449) (by decide) ?_
              refine o_iload X77 hx (hb hby at_449) (v := (2 : Int32)) rfl (n := 451) rfl ?_
              refine o_iconst X77 hx (hb hby at_451) (v := (3 : Int32)) rfl (n := 452) rfl ?_
              refine o_icmpN X77 hx (hb hby at_452) (XT.ii_ge_f (by decide)) (n := 455) rfl ?_
              refine o_aload X77 hx (hb hby at_455) (v := (.ref b27)) rfl rfl (n := 457) rfl ?_
              refine o_iconst X77 hx (hb hby at_457) (v := (2 : Int32)) rfl (n := 458) rfl ?_
              refine o_laload X77 hx hZ e77 pR_ (2) (by decide) (by decide) (v := (.long ((o_pk D o_N4 z0 z1).getD 2 0))) (o_lgd _ _) (hb hby at_458) (n := 459) rfl ?_
              refine o_ldc2_w X77 hx hZ (v := (-1 : Int64)) hown (hw _ (List.mem_of_getElem? (i := 91) rfl)) (hb hby at_459) (n := 462) rfl ?_
              refine o_lcmp X77 hx (hb hby at_462) (n := 463) rfl ?_
              refine o_ifN X77 hx (hb hby at_463) (XT.ll_ne_f w2) (n := 466) rfl ?_
              refine o_aload X77 hx (hb hby at_466) (v := (.ref b27)) rfl rfl (n := 468) rfl ?_
              refine o_iconst X77 hx (hb hby at_468) (v := (3 : Int32)) rfl (n := 469) rfl ?_
              refine o_laload X77 hx hZ e77 pR_ (3) (by decide) (by decide) (v := (.long ((o_pk D o_N4 z0 z1).getD 3 0))) (o_lgd _ _) (hb hby at_469) (n := 470) rfl ?_
              refine o_ldc2_w X77 hx hZ (v := (-1 : Int64)) hown (hw _ (List.mem_of_getElem? (i := 91) rfl)) (hb hby at_470) (n := 473) rfl ?_
              refine o_lcmp X77 hx (hb hby at_473) (n := 474) rfl ?_
              refine o_ifN X77 hx (hb hby at_474) (XT.ll_ne_f w3) (n := 477) rfl ?_
              refine o_iconst X77 hx (hb hby at_477) (v := (1 : Int32)) rfl (n := 478) rfl ?_
              refine o_goto X77 hx (hb hby at_478) (by decide) (n := 482) (by decide) ?_
              refine o_istore X77 hx (hb hby at_482) (Ls' := #[.val (.long u0), .second, .val (.long u1), .second, .val (.long v0), .second, .val (.long v1), .second, .val (.int sel), .val (.long z0), .second, .val (.long z1), .second, .val (.long m0), .second, .val (.long m1), .second, .val (.ref b1), .val (.ref b27), .val (.int (o_pr D z0 z1)), .val (.long (z0 + (1 : Int64))), .second, .val (.long (z1 + (1 : Int64))), .second, .val (.int (n32 nb0)), .val (.int (n32 nb1)), .val (.int ft), .val (.long ((o_e0 (z0 + (1 : Int64)) (z1 + (1 : Int64))) ||| (o_shl (o_v (z1 + (1 : Int64)) (nb1 - 1)) (n32 2)))), .second, .val (.long ((0 : Int64) ||| (o_v (z0 + (1 : Int64)) (nb0 - 1)))), .second, .val (.long (0 : Int64)), .second, .val (.int (n32 (2 + (nb1 - 1)))), .val (.int (2 : Int32)), .val (.int (1 : Int32)), .val (.int (1 : Int32)), .unset]) rfl (n := 484) rfl ?_
              refine o_iload X77 hx (hb hby at_484) (v := (1 : Int32)) rfl (n := 486) rfl ?_
              refine o_ifN X77 hx (hb hby at_486) (XT.i0_eq_f (by decide)) (n := 489) rfl ?_
              refine o_iload X77 hx (hb hby at_489) (v := (1 : Int32)) rfl (n := 491) rfl ?_
              refine o_ifN X77 hx (hb hby at_491) (XT.i0_eq_f (by decide)) (n := 494) rfl ?_
              refine o_iconst X77 hx (hb hby at_494) (v := (1 : Int32)) rfl (n := 495) rfl ?_
              refine o_goto X77 hx (hb hby at_495) (by decide) (n := 499) (by decide) ?_
              exact o_nreturn X77 hx hret hlk (t := .boolean) (by simp) (hb hby at_499) (by decide) (by decide) e77 ⟨rfl, N78⟩
        · refine o_icmpY X75 hx (hb hby at_298) (XT.ii_le_t hc298) (by decide) (n := 378) (by decide) ?_
          obtain ⟨w0, w1, w2, w3⟩ := o_csxn (z0 := z0) (z1 := z1) hP hT l0 l1 hc234 hc262 hc298
          refine o_iload X75 hx (hb hby at_378) (v := ft) rfl (n := 380) rfl ?_
          by_cases hc380 : ft = (0 : Int32)
          · refine o_ifY X75 hx (hb hby at_380) (XT.i0_eq_t hc380) (by decide) (n := 425) (by decide) ?_
            refine o_iconst X75 hx (hb hby at_425) (v := (1 : Int32)) rfl (n := 426) rfl ?_
            refine o_goto X75 hx (hb hby at_426) (by decide) (n := 430) (by decide) ?_
            refine o_istore X75 hx (hb hby at_430) (Ls' := #[.val (.long u0), .second, .val (.long u1), .second, .val (.long v0), .second, .val (.long v1), .second, .val (.int sel), .val (.long z0), .second, .val (.long z1), .second, .val (.long m0), .second, .val (.long m1), .second, .val (.ref b1), .val (.ref b27), .val (.int (o_pr D z0 z1)), .val (.long (z0 + (1 : Int64))), .second, .val (.long (z1 + (1 : Int64))), .second, .val (.int (n32 nb0)), .val (.int (n32 nb1)), .val (.int ft), .val (.long (o_e0 (z0 + (1 : Int64)) (z1 + (1 : Int64)))), .second, .val (.long ((0 : Int64) ||| (o_v (z0 + (1 : Int64)) (nb0 - 1)))), .second, .val (.long (0 : Int64)), .second, .val (.int (2 : Int32)), .val (.int (2 : Int32)), .val (.int (1 : Int32)), .val (.long (o_v (z0 + (1 : Int64)) (nb0 - 1))), .second]) rfl (n := 432) rfl ?_
            refine o_iload X75 hx (hb hby at_432) (v := (2 : Int32)) rfl (n := 434) rfl ?_
            refine o_iconst X75 hx (hb hby at_434) (v := (2 : Int32)) rfl (n := 435) rfl ?_
            refine o_icmpY X75 hx (hb hby at_435) (XT.ii_ge_t (by decide)) (by decide) (n := 449) (by decide) ?_
            refine o_iload X75 hx (hb hby at_449) (v := (2 : Int32)) rfl (n := 451) rfl ?_
            refine o_iconst X75 hx (hb hby at_451) (v := (3 : Int32)) rfl (n := 452) rfl ?_
            refine o_icmpN X75 hx (hb hby at_452) (XT.ii_ge_f (by decide)) (n := 455) rfl ?_
            refine o_aload X75 hx (hb hby at_455) (v := (.ref b27)) rfl rfl (n := 457) rfl ?_
            refine o_iconst X75 hx (hb hby at_457) (v := (2 : Int32)) rfl (n := 458) rfl ?_
            refine o_laload X75 hx hZ e75 pR_ (2) (by decide) (by decide) (v := (.long ((o_pk D o_N4 z0 z1).getD 2 0))) (o_lgd _ _) (hb hby at_458) (n := 459) rfl ?_
            refine o_ldc2_w X75 hx hZ (v := (-1 : Int64)) hown (hw _ (List.mem_of_getElem? (i := 91) rfl)) (hb hby at_459) (n := 462) rfl ?_
            refine o_lcmp X75 hx (hb hby at_462) (n := 463) rfl ?_
            refine o_ifN X75 hx (hb hby at_463) (XT.ll_ne_f w2) (n := 466) rfl ?_
            refine o_aload X75 hx (hb hby at_466) (v := (.ref b27)) rfl rfl (n := 468) rfl ?_
            refine o_iconst X75 hx (hb hby at_468) (v := (3 : Int32)) rfl (n := 469) rfl ?_
            refine o_laload X75 hx hZ e75 pR_ (3) (by decide) (by decide) (v := (.long ((o_pk D o_N4 z0 z1).getD 3 0))) (o_lgd _ _) (hb hby at_469) (n := 470) rfl ?_
            refine o_ldc2_w X75 hx hZ (v := (-1 : Int64)) hown (hw _ (List.mem_of_getElem? (i := 91) rfl)) (hb hby at_470) (n := 473) rfl ?_
            refine o_lcmp X75 hx (hb hby at_473) (n := 474) rfl ?_
            refine o_ifN X75 hx (hb hby at_474) (XT.ll_ne_f w3) (n := 477) rfl ?_
            refine o_iconst X75 hx (hb hby at_477) (v := (1 : Int32)) rfl (n := 478) rfl ?_
            refine o_goto X75 hx (hb hby at_478) (by decide) (n := 482) (by decide) ?_
            refine o_istore X75 hx (hb hby at_482) (Ls' := #[.val (.long u0), .second, .val (.long u1), .second, .val (.long v0), .second, .val (.long v1), .second, .val (.int sel), .val (.long z0), .second, .val (.long z1), .second, .val (.long m0), .second, .val (.long m1), .second, .val (.ref b1), .val (.ref b27), .val (.int (o_pr D z0 z1)), .val (.long (z0 + (1 : Int64))), .second, .val (.long (z1 + (1 : Int64))), .second, .val (.int (n32 nb0)), .val (.int (n32 nb1)), .val (.int ft), .val (.long (o_e0 (z0 + (1 : Int64)) (z1 + (1 : Int64)))), .second, .val (.long ((0 : Int64) ||| (o_v (z0 + (1 : Int64)) (nb0 - 1)))), .second, .val (.long (0 : Int64)), .second, .val (.int (2 : Int32)), .val (.int (2 : Int32)), .val (.int (1 : Int32)), .val (.int (1 : Int32)), .unset]) rfl (n := 484) rfl ?_
            refine o_iload X75 hx (hb hby at_484) (v := (1 : Int32)) rfl (n := 486) rfl ?_
            refine o_ifN X75 hx (hb hby at_486) (XT.i0_eq_f (by decide)) (n := 489) rfl ?_
            refine o_iload X75 hx (hb hby at_489) (v := (1 : Int32)) rfl (n := 491) rfl ?_
            refine o_ifN X75 hx (hb hby at_491) (XT.i0_eq_f (by decide)) (n := 494) rfl ?_
            refine o_iconst X75 hx (hb hby at_494) (v := (1 : Int32)) rfl (n := 495) rfl ?_
            refine o_goto X75 hx (hb hby at_495) (by decide) (n := 499) (by decide) ?_
            exact o_nreturn X75 hx hret hlk (t := .boolean) (by simp) (hb hby at_499) (by decide) (by decide) e75 ⟨rfl, N76⟩
          · refine o_ifN X75 hx (hb hby at_380) (XT.i0_eq_f hc380) (n := 383) rfl ?_
            refine o_aload X75 hx (hb hby at_383) (v := (.ref b27)) rfl rfl (n := 385) rfl ?_
            refine o_iconst X75 hx (hb hby at_385) (v := (0 : Int32)) rfl (n := 386) rfl ?_
            refine o_laload X75 hx hZ e75 pR_ (0) (by decide) (by decide) (v := (.long ((o_pk D o_N4 z0 z1).getD 0 0))) (o_lgd _ _) (hb hby at_386) (n := 387) rfl ?_
            refine o_lload X75 hx (hb hby at_387) (v := (o_e0 (z0 + (1 : Int64)) (z1 + (1 : Int64)))) rfl (n := 389) rfl ?_
            refine o_lcmp X75 hx (hb hby at_389) (n := 390) rfl ?_
            refine o_ifN X75 hx (hb hby at_390) (XT.ll_ne_f w0) (n := 393) rfl ?_
            refine o_iload X75 hx (hb hby at_393) (v := (2 : Int32)) rfl (n := 395) rfl ?_
            refine o_iconst X75 hx (hb hby at_395) (v := (2 : Int32)) rfl (n := 396) rfl ?_
            refine o_icmpN X75 hx (hb hby at_396) (XT.ii_lt_f (by decide)) (n := 399) rfl ?_
            refine o_aload X75 hx (hb hby at_399) (v := (.ref b27)) rfl rfl (n := 401) rfl ?_
            refine o_iconst X75 hx (hb hby at_401) (v := (1 : Int32)) rfl (n := 402) rfl ?_
            refine o_laload X75 hx hZ e75 pR_ (1) (by decide) (by decide) (v := (.long ((o_pk D o_N4 z0 z1).getD 1 0))) (o_lgd _ _) (hb hby at_402) (n := 403) rfl ?_
            refine o_lload X75 hx (hb hby at_403) (v := ((0 : Int64) ||| (o_v (z0 + (1 : Int64)) (nb0 - 1)))) rfl (n := 405) rfl ?_
            refine o_lcmp X75 hx (hb hby at_405) (n := 406) rfl ?_
            refine o_ifN X75 hx (hb hby at_406) (XT.ll_ne_f w1) (n := 409) rfl ?_
            refine o_iload X75 hx (hb hby at_409) (v := (2 : Int32)) rfl (n := 411) rfl ?_
            refine o_iconst X75 hx (hb hby at_411) (v := (3 : Int32)) rfl (n := 412) rfl ?_
            refine o_icmpY X75 hx (hb hby at_412) (XT.ii_lt_t (by decide)) (by decide) (n := 425) (by decide) ?_
            refine o_iconst X75 hx (hb hby at_425) (v := (1 : Int32)) rfl (n := 426) rfl ?_
            refine o_goto X75 hx (hb hby at_426) (by decide) (n := 430) (by decide) ?_
            refine o_istore X75 hx (hb hby at_430) (Ls' := #[.val (.long u0), .second, .val (.long u1), .second, .val (.long v0), .second, .val (.long v1), .second, .val (.int sel), .val (.long z0), .second, .val (.long z1), .second, .val (.long m0), .second, .val (.long m1), .second, .val (.ref b1), .val (.ref b27), .val (.int (o_pr D z0 z1)), .val (.long (z0 + (1 : Int64))), .second, .val (.long (z1 + (1 : Int64))), .second, .val (.int (n32 nb0)), .val (.int (n32 nb1)), .val (.int ft), .val (.long (o_e0 (z0 + (1 : Int64)) (z1 + (1 : Int64)))), .second, .val (.long ((0 : Int64) ||| (o_v (z0 + (1 : Int64)) (nb0 - 1)))), .second, .val (.long (0 : Int64)), .second, .val (.int (2 : Int32)), .val (.int (2 : Int32)), .val (.int (1 : Int32)), .val (.long (o_v (z0 + (1 : Int64)) (nb0 - 1))), .second]) rfl (n := 432) rfl ?_
            refine o_iload X75 hx (hb hby at_432) (v := (2 : Int32)) rfl (n := 434) rfl ?_
            refine o_iconst X75 hx (hb hby at_434) (v := (2 : Int32)) rfl (n := 435) rfl ?_
            refine o_icmpY X75 hx (hb hby at_435) (XT.ii_ge_t (by decide)) (by decide) (n := 449) (by decide) ?_
            refine o_iload X75 hx (hb hby at_449) (v := (2 : Int32)) rfl (n := 451) rfl ?_
            refine o_iconst X75 hx (hb hby at_451) (v := (3 : Int32)) rfl (n := 452) rfl ?_
            refine o_icmpN X75 hx (hb hby at_452) (XT.ii_ge_f (by decide)) (n := 455) rfl ?_
            refine o_aload X75 hx (hb hby at_455) (v := (.ref b27)) rfl rfl (n := 457) rfl ?_
            refine o_iconst X75 hx (hb hby at_457) (v := (2 : Int32)) rfl (n := 458) rfl ?_
            refine o_laload X75 hx hZ e75 pR_ (2) (by decide) (by decide) (v := (.long ((o_pk D o_N4 z0 z1).getD 2 0))) (o_lgd _ _) (hb hby at_458) (n := 459) rfl ?_
            refine o_ldc2_w X75 hx hZ (v := (-1 : Int64)) hown (hw _ (List.mem_of_getElem? (i := 91) rfl)) (hb hby at_459) (n := 462) rfl ?_
            refine o_lcmp X75 hx (hb hby at_462) (n := 463) rfl ?_
            refine o_ifN X75 hx (hb hby at_463) (XT.ll_ne_f w2) (n := 466) rfl ?_
            refine o_aload X75 hx (hb hby at_466) (v := (.ref b27)) rfl rfl (n := 468) rfl ?_
            refine o_iconst X75 hx (hb hby at_468) (v := (3 : Int32)) rfl (n := 469) rfl ?_
            refine o_laload X75 hx hZ e75 pR_ (3) (by decide) (by decide) (v := (.long ((o_pk D o_N4 z0 z1).getD 3 0))) (o_lgd _ _) (hb hby at_469) (n := 470) rfl ?_
            refine o_ldc2_w X75 hx hZ (v := (-1 : Int64)) hown (hw _ (List.mem_of_getElem? (i := 91) rfl)) (hb hby at_470) (n := 473) rfl ?_
            refine o_lcmp X75 hx (hb hby at_473) (n := 474) rfl ?_
            refine o_ifN X75 hx (hb hby at_474) (XT.ll_ne_f w3) (n := 477) rfl ?_
            refine o_iconst X75 hx (hb hby at_477) (v := (1 : Int32)) rfl (n := 478) rfl ?_
            refine o_goto X75 hx (hb hby at_478) (by decide) (n := 482) (by decide) ?_
            refine o_istore X75 hx (hb hby at_482) (Ls' := #[.val (.long u0), .second, .val (.long u1), .second, .val (.long v0), .second, .val (.long v1), .second, .val (.int sel), .val (.long z0), .second, .val (.long z1), .second, .val (.long m0), .second, .val (.long m1), .second, .val (.ref b1), .val (.ref b27), .val (.int (o_pr D z0 z1)), .val (.long (z0 + (1 : Int64))), .second, .val (.long (z1 + (1 : Int64))), .second, .val (.int (n32 nb0)), .val (.int (n32 nb1)), .val (.int ft), .val (.long (o_e0 (z0 + (1 : Int64)) (z1 + (1 : Int64)))), .second, .val (.long ((0 : Int64) ||| (o_v (z0 + (1 : Int64)) (nb0 - 1)))), .second, .val (.long (0 : Int64)), .second, .val (.int (2 : Int32)), .val (.int (2 : Int32)), .val (.int (1 : Int32)), .val (.int (1 : Int32)), .unset]) rfl (n := 484) rfl ?_
            refine o_iload X75 hx (hb hby at_484) (v := (1 : Int32)) rfl (n := 486) rfl ?_
            refine o_ifN X75 hx (hb hby at_486) (XT.i0_eq_f (by decide)) (n := 489) rfl ?_
            refine o_iload X75 hx (hb hby at_489) (v := (1 : Int32)) rfl (n := 491) rfl ?_
            refine o_ifN X75 hx (hb hby at_491) (XT.i0_eq_f (by decide)) (n := 494) rfl ?_
            refine o_iconst X75 hx (hb hby at_494) (v := (1 : Int32)) rfl (n := 495) rfl ?_
            refine o_goto X75 hx (hb hby at_495) (by decide) (n := 499) (by decide) ?_
            exact o_nreturn X75 hx hret hlk (t := .boolean) (by simp) (hb hby at_499) (by decide) (by decide) e75 ⟨rfl, N76⟩
      · refine o_icmpN X75 hx (hb hby at_262) (XT.ii_gt_f hc262) (n := 265) rfl ?_
        refine o_lload X75 hx (hb hby at_265) (v := (o_e0 (z0 + (1 : Int64)) (z1 + (1 : Int64)))) rfl (n := 267) rfl ?_
        refine o_lload X75 hx (hb hby at_267) (v := (o_v (z0 + (1 : Int64)) (nb0 - 1))) rfl (n := 269) rfl ?_
        refine o_iload X75 hx (hb hby at_269) (v := (2 : Int32)) rfl (n := 271) rfl ?_
        refine o_lshl X75 hx (hb hby at_271) (v := (o_shl (o_v (z0 + (1 : Int64)) (nb0 - 1)) (n32 2))) rfl (n := 272) rfl ?_
        refine o_lor X75 hx (hb hby at_272) (v := ((o_e0 (z0 + (1 : Int64)) (z1 + (1 : Int64))) ||| (o_shl (o_v (z0 + (1 : Int64)) (nb0 - 1)) (n32 2)))) rfl (n := 273) rfl ?_
        refine o_lstore X75 hx (hb hby at_273) (Ls' := #[.val (.long u0), .second, .val (.long u1), .second, .val (.long v0), .second, .val (.long v1), .second, .val (.int sel), .val (.long z0), .second, .val (.long z1), .second, .val (.long m0), .second, .val (.long m1), .second, .val (.ref b1), .val (.ref b27), .val (.int (o_pr D z0 z1)), .val (.long (z0 + (1 : Int64))), .second, .val (.long (z1 + (1 : Int64))), .second, .val (.int (n32 nb0)), .val (.int (n32 nb1)), .val (.int ft), .val (.long ((o_e0 (z0 + (1 : Int64)) (z1 + (1 : Int64))) ||| (o_shl (o_v (z0 + (1 : Int64)) (nb0 - 1)) (n32 2)))), .second, .val (.long (0 : Int64)), .second, .val (.long (0 : Int64)), .second, .val (.int (2 : Int32)), .val (.int (1 : Int32)), .val (.int (n32 (nb0 - 1))), .val (.long (o_v (z0 + (1 : Int64)) (nb0 - 1))), .second]) rfl (n := 275) rfl ?_
        refine o_iload X75 hx (hb hby at_275) (v := (2 : Int32)) rfl (n := 277) rfl ?_
        refine o_iload X75 hx (hb hby at_277) (v := (n32 (nb0 - 1))) rfl (n := 279) rfl ?_
        refine o_iadd X75 hx (hb hby at_279) (v := (n32 (2 + (nb0 - 1)))) (o_nadd 2 _) (n := 280) rfl ?_
        refine o_istore X75 hx (hb hby at_280) (Ls' := #[.val (.long u0), .second, .val (.long u1), .second, .val (.long v0), .second, .val (.long v1), .second, .val (.int sel), .val (.long z0), .second, .val (.long z1), .second, .val (.long m0), .second, .val (.long m1), .second, .val (.ref b1), .val (.ref b27), .val (.int (o_pr D z0 z1)), .val (.long (z0 + (1 : Int64))), .second, .val (.long (z1 + (1 : Int64))), .second, .val (.int (n32 nb0)), .val (.int (n32 nb1)), .val (.int ft), .val (.long ((o_e0 (z0 + (1 : Int64)) (z1 + (1 : Int64))) ||| (o_shl (o_v (z0 + (1 : Int64)) (nb0 - 1)) (n32 2)))), .second, .val (.long (0 : Int64)), .second, .val (.long (0 : Int64)), .second, .val (.int (n32 (2 + (nb0 - 1)))), .val (.int (1 : Int32)), .val (.int (n32 (nb0 - 1))), .val (.long (o_v (z0 + (1 : Int64)) (nb0 - 1))), .second]) rfl (n := 282) rfl ?_
        refine o_goto X75 hx (hb hby at_282) (by decide) (n := 295) (by decide) ?_
        refine o_iload X75 hx (hb hby at_295) (v := (n32 nb1)) rfl (n := 297) rfl ?_
        refine o_iconst X75 hx (hb hby at_297) (v := (1 : Int32)) rfl (n := 298) rfl ?_
        by_cases hc298 : (1 : Int32) < (n32 nb1)
        · refine o_icmpN X75 hx (hb hby at_298) (XT.ii_le_f hc298) (n := 301) rfl ?_
          have g1' : 1 < nb1 := (o_nlt (a := 1) (by decide) (Nat.lt_of_le_of_lt l1 (by decide))).mp hc298
          refine o_iload X75 hx (hb hby at_301) (v := (n32 nb1)) rfl (n := 303) rfl ?_
          refine o_iconst X75 hx (hb hby at_303) (v := (1 : Int32)) rfl (n := 304) rfl ?_
          refine o_isub X75 hx (hb hby at_304) (v := (n32 (nb1 - 1))) (o_nsub (b := 1) lo1 (Nat.lt_of_le_of_lt l1 (by decide))) (n := 305) rfl ?_
          refine o_istore X75 hx (hb hby at_305) (Ls' := #[.val (.long u0), .second, .val (.long u1), .second, .val (.long v0), .second, .val (.long v1), .second, .val (.int sel), .val (.long z0), .second, .val (.long z1), .second, .val (.long m0), .second, .val (.long m1), .second, .val (.ref b1), .val (.ref b27), .val (.int (o_pr D z0 z1)), .val (.long (z0 + (1 : Int64))), .second, .val (.long (z1 + (1 : Int64))), .second, .val (.int (n32 nb0)), .val (.int (n32 nb1)), .val (.int ft), .val (.long ((o_e0 (z0 + (1 : Int64)) (z1 + (1 : Int64))) ||| (o_shl (o_v (z0 + (1 : Int64)) (nb0 - 1)) (n32 2)))), .second, .val (.long (0 : Int64)), .second, .val (.long (0 : Int64)), .second, .val (.int (n32 (2 + (nb0 - 1)))), .val (.int (1 : Int32)), .val (.int (n32 (nb1 - 1))), .val (.long (o_v (z0 + (1 : Int64)) (nb0 - 1))), .second]) rfl (n := 307) rfl ?_
          refine o_lload X75 hx (hb hby at_307) (v := (z1 + (1 : Int64))) rfl (n := 309) rfl ?_
          refine o_iconst X75 hx (hb hby at_309) (v := (1 : Int32)) rfl (n := 310) rfl ?_
          refine o_lushr X75 hx (hb hby at_310) (v := (o_shr (z1 + (1 : Int64)) (n32 1))) rfl (n := 311) rfl ?_
          refine o_iload X75 hx (hb hby at_311) (v := (n32 (nb1 - 1))) rfl (n := 313) rfl ?_
          refine o_callS X75 hx hZ hown (hw _ (List.mem_of_getElem? (i := 106) rfl)) (hw _ (List.mem_of_getElem? (i := 107) rfl)) (hw _ (List.mem_of_getElem? (i := 99) rfl)) (hw _ (List.mem_of_getElem? (i := 108) rfl)) (by decide) e75 (argsL := [(.int (n32 (nb1 - 1)))]) (rest := [(.long (o_shr (z1 + (1 : Int64)) (n32 1)))]) ((o_onM (o_km g1') (Nat.le_trans (Nat.sub_le _ _) l1)) ▸ c_ones l Z a0 hw (n32 (nb1 - 1)) h_) 2 (by decide) (by decide) (by decide) (by decide) (by rw [hml]; rfl) (lenOf o_pd13 rfl) rfl (Nat.le_of_eq rfl) (hb hby at_313) (n := 316) rfl ?_
          intro v79 T79 L79 X79 q79
          obtain ⟨rfl, e79, rfl⟩ := q79
          have N80 := Fr.app N76 (Fr.nil n0)
          show Goes p e below s _ _ _ (T79.setTop (mkF m 316 #[.val (.long u0), .second, .val (.long u1), .second, .val (.long v0), .second, .val (.long v1), .second, .val (.int sel), .val (.long z0), .second, .val (.long z1), .second, .val (.long m0), .second, .val (.long m1), .second, .val (.ref b1), .val (.ref b27), .val (.int (o_pr D z0 z1)), .val (.long (z0 + (1 : Int64))), .second, .val (.long (z1 + (1 : Int64))), .second, .val (.int (n32 nb0)), .val (.int (n32 nb1)), .val (.int ft), .val (.long ((o_e0 (z0 + (1 : Int64)) (z1 + (1 : Int64))) ||| (o_shl (o_v (z0 + (1 : Int64)) (nb0 - 1)) (n32 2)))), .second, .val (.long (0 : Int64)), .second, .val (.long (0 : Int64)), .second, .val (.int (n32 (2 + (nb0 - 1)))), .val (.int (1 : Int32)), .val (.int (n32 (nb1 - 1))), .val (.long (o_v (z0 + (1 : Int64)) (nb0 - 1))), .second] [(.long (o_mk (n32 (nb1 - 1)))), (.long (o_shr (z1 + (1 : Int64)) (n32 1)))]))
          refine o_land X79 hx (hb hby at_316) (v := (o_v (z1 + (1 : Int64)) (nb1 - 1))) rfl (n := 317) rfl ?_
          refine o_lstore X79 hx (hb hby at_317) (Ls' := #[.val (.long u0), .second, .val (.long u1), .second, .val (.long v0), .second, .val (.long v1), .second, .val (.int sel), .val (.long z0), .second, .val (.long z1), .second, .val (.long m0), .second, .val (.long m1), .second, .val (.ref b1), .val (.ref b27), .val (.int (o_pr D z0 z1)), .val (.long (z0 + (1 : Int64))), .second, .val (.long (z1 + (1 : Int64))), .second, .val (.int (n32 nb0)), .val (.int (n32 nb1)), .val (.int ft), .val (.long ((o_e0 (z0 + (1 : Int64)) (z1 + (1 : Int64))) ||| (o_shl (o_v (z0 + (1 : Int64)) (nb0 - 1)) (n32 2)))), .second, .val (.long (0 : Int64)), .second, .val (.long (0 : Int64)), .second, .val (.int (n32 (2 + (nb0 - 1)))), .val (.int (1 : Int32)), .val (.int (n32 (nb1 - 1))), .val (.long (o_v (z1 + (1 : Int64)) (nb1 - 1))), .second]) rfl (n := 319) rfl ?_
          refine o_iload X79 hx (hb hby at_319) (v := (n32 (2 + (nb0 - 1)))) rfl (n := 321) rfl ?_
          refine o_iload X79 hx (hb hby at_321) (v := (n32 (nb1 - 1))) rfl (n := 323) rfl ?_
          refine o_iadd X79 hx (hb hby at_323) (v := (n32 ((2 + (nb0 - 1)) + (nb1 - 1)))) (o_nadd (2 + (nb0 - 1)) _) (n := 324) rfl ?_
          refine o_bipush X79 hx (hb hby at_324) (v := (64 : Int32)) rfl (n := 326) rfl ?_
          by_cases hc326 : (64 : Int32) < (n32 ((2 + (nb0 - 1)) + (nb1 - 1)))
          · refine o_icmpY X79 hx (hb hby at_326) (XT.ii_gt_t hc326) (by decide) (n := 349) (by decide) ?_
            refine o_iload X79 hx (hb hby at_349) (v := (1 : Int32)) rfl (n := 351) rfl ?_
            refine o_iconst X79 hx (hb hby at_351) (v := (1 : Int32)) rfl (n := 352) rfl ?_
            refine o_icmpN X79 hx (hb hby at_352) (XT.ii_ne_f (by decide)) (n := 355) rfl ?_
            refine o_lload X79 hx (hb hby at_355) (v := (0 : Int64)) rfl (n := 357) rfl ?_
            refine o_lload X79 hx (hb hby at_357) (v := (o_v (z1 + (1 : Int64)) (nb1 - 1))) rfl (n := 359) rfl ?_
            refine o_lor X79 hx (hb hby at_359) (v := ((0 : Int64) ||| (o_v (z1 + (1 : Int64)) (nb1 - 1)))) rfl (n := 360) rfl ?_
            refine o_lstore X79 hx (hb hby at_360) (Ls' := #[.val (.long u0), .second, .val (.long u1), .second, .val (.long v0), .second, .val (.long v1), .second, .val (.int sel), .val (.long z0), .second, .val (.long z1), .second, .val (.long m0), .second, .val (.long m1), .second, .val (.ref b1), .val (.ref b27), .val (.int (o_pr D z0 z1)), .val (.long (z0 + (1 : Int64))), .second, .val (.long (z1 + (1 : Int64))), .second, .val (.int (n32 nb0)), .val (.int (n32 nb1)), .val (.int ft), .val (.long ((o_e0 (z0 + (1 : Int64)) (z1 + (1 : Int64))) ||| (o_shl (o_v (z0 + (1 : Int64)) (nb0 - 1)) (n32 2)))), .second, .val (.long ((0 : Int64) ||| (o_v (z1 + (1 : Int64)) (nb1 - 1)))), .second, .val (.long (0 : Int64)), .second, .val (.int (n32 (2 + (nb0 - 1)))), .val (.int (1 : Int32)), .val (.int (n32 (nb1 - 1))), .val (.long (o_v (z1 + (1 : Int64)) (nb1 - 1))), .second]) rfl (n := 362) rfl ?_
            refine o_iconst X79 hx (hb hby at_362) (v := (2 : Int32)) rfl (n := 363) rfl ?_
            refine o_istore X79 hx (hb hby at_363) (Ls' := #[.val (.long u0), .second, .val (.long u1), .second, .val (.long v0), .second, .val (.long v1), .second, .val (.int sel), .val (.long z0), .second, .val (.long z1), .second, .val (.long m0), .second, .val (.long m1), .second, .val (.ref b1), .val (.ref b27), .val (.int (o_pr D z0 z1)), .val (.long (z0 + (1 : Int64))), .second, .val (.long (z1 + (1 : Int64))), .second, .val (.int (n32 nb0)), .val (.int (n32 nb1)), .val (.int ft), .val (.long ((o_e0 (z0 + (1 : Int64)) (z1 + (1 : Int64))) ||| (o_shl (o_v (z0 + (1 : Int64)) (nb0 - 1)) (n32 2)))), .second, .val (.long ((0 : Int64) ||| (o_v (z1 + (1 : Int64)) (nb1 - 1)))), .second, .val (.long (0 : Int64)), .second, .val (.int (n32 (2 + (nb0 - 1)))), .val (.int (2 : Int32)), .val (.int (n32 (nb1 - 1))), .val (.long (o_v (z1 + (1 : Int64)) (nb1 - 1))), .second]) rfl (n := 365) rfl ?_
            refine o_goto X79 hx (hb hby at_365) (by decide) (n := 378) (by decide) ?_
            obtain ⟨w0, w1, w2, w3⟩ := o_csfx (z0 := z0) (z1 := z1) hP hT l0 l1 hc234 hc262 hc298 hc326
            refine o_iload X79 hx (hb hby at_378) (v := ft) rfl (n := 380) rfl ?_
            by_cases hc380 : ft = (0 : Int32)
            · refine o_ifY X79 hx (hb hby at_380) (XT.i0_eq_t hc380) (by decide) (n := 425) (by decide) ?_
              refine o_iconst X79 hx (hb hby at_425) (v := (1 : Int32)) rfl (n := 426) rfl ?_
              refine o_goto X79 hx (hb hby at_426) (by decide) (n := 430) (by decide) ?_
              refine o_istore X79 hx (hb hby at_430) (Ls' := #[.val (.long u0), .second, .val (.long u1), .second, .val (.long v0), .second, .val (.long v1), .second, .val (.int sel), .val (.long z0), .second, .val (.long z1), .second, .val (.long m0), .second, .val (.long m1), .second, .val (.ref b1), .val (.ref b27), .val (.int (o_pr D z0 z1)), .val (.long (z0 + (1 : Int64))), .second, .val (.long (z1 + (1 : Int64))), .second, .val (.int (n32 nb0)), .val (.int (n32 nb1)), .val (.int ft), .val (.long ((o_e0 (z0 + (1 : Int64)) (z1 + (1 : Int64))) ||| (o_shl (o_v (z0 + (1 : Int64)) (nb0 - 1)) (n32 2)))), .second, .val (.long ((0 : Int64) ||| (o_v (z1 + (1 : Int64)) (nb1 - 1)))), .second, .val (.long (0 : Int64)), .second, .val (.int (n32 (2 + (nb0 - 1)))), .val (.int (2 : Int32)), .val (.int (1 : Int32)), .val (.long (o_v (z1 + (1 : Int64)) (nb1 - 1))), .second]) rfl (n := 432) rfl ?_
              refine o_iload X79 hx (hb hby at_432) (v := (2 : Int32)) rfl (n := 434) rfl ?_
              refine o_iconst X79 hx (hb hby at_434) (v := (2 : Int32)) rfl (n := 435) rfl ?_
              refine o_icmpY X79 hx (hb hby at_435) (XT.ii_ge_t (by decide)) (by decide) (n := 449) (by decide) ?_
              refine o_iload X79 hx (hb hby at_449) (v := (2 : Int32)) rfl (n := 451) rfl ?_
              refine o_iconst X79 hx (hb hby at_451) (v := (3 : Int32)) rfl (n := 452) rfl ?_
              refine o_icmpN X79 hx (hb hby at_452) (XT.ii_ge_f (by decide)) (n := 455) rfl ?_
              refine o_aload X79 hx (hb hby at_455) (v := (.ref b27)) rfl rfl (n := 457) rfl ?_
              refine o_iconst X79 hx (hb hby at_457) (v := (2 : Int32)) rfl (n := 458) rfl ?_
              refine o_laload X79 hx hZ e79 pR_ (2) (by decide) (by decide) (v := (.long ((o_pk D o_N4 z0 z1).getD 2 0))) (o_lgd _ _) (hb hby at_458) (n := 459) rfl ?_
              refine o_ldc2_w X79 hx hZ (v := (-1 : Int64)) hown (hw _ (List.mem_of_getElem? (i := 91) rfl)) (hb hby at_459) (n := 462) rfl ?_
              refine o_lcmp X79 hx (hb hby at_462) (n := 463) rfl ?_
              refine o_ifN X79 hx (hb hby at_463) (XT.ll_ne_f w2) (n := 466) rfl ?_
              refine o_aload X79 hx (hb hby at_466) (v := (.ref b27)) rfl rfl (n := 468) rfl ?_
              refine o_iconst X79 hx (hb hby at_468) (v := (3 : Int32)) rfl (n := 469) rfl ?_
              refine o_laload X79 hx hZ e79 pR_ (3) (by decide) (by decide) (v := (.long ((o_pk D o_N4 z0 z1).getD 3 0))) (o_lgd _ _) (hb hby at_469) (n := 470) rfl ?_
              refine o_ldc2_w X79 hx hZ (v := (-1 : Int64)) hown (hw _ (List.mem_of_getElem? (i := 91) rfl)) (hb hby at_470) (n := 473) rfl ?_
              refine o_lcmp X79 hx (hb hby at_473) (n := 474) rfl ?_
              refine o_ifN X79 hx (hb hby at_474) (XT.ll_ne_f w3) (n := 477) rfl ?_
              refine o_iconst X79 hx (hb hby at_477) (v := (1 : Int32)) rfl (n := 478) rfl ?_
              refine o_goto X79 hx (hb hby at_478) (by decide) (n := 482) (by decide) ?_
              refine o_istore X79 hx (hb hby at_482) (Ls' := #[.val (.long u0), .second, .val (.long u1), .second, .val (.long v0), .second, .val (.long v1), .second, .val (.int sel), .val (.long z0), .second, .val (.long z1), .second, .val (.long m0), .second, .val (.long m1), .second, .val (.ref b1), .val (.ref b27), .val (.int (o_pr D z0 z1)), .val (.long (z0 + (1 : Int64))), .second, .val (.long (z1 + (1 : Int64))), .second, .val (.int (n32 nb0)), .val (.int (n32 nb1)), .val (.int ft), .val (.long ((o_e0 (z0 + (1 : Int64)) (z1 + (1 : Int64))) ||| (o_shl (o_v (z0 + (1 : Int64)) (nb0 - 1)) (n32 2)))), .second, .val (.long ((0 : Int64) ||| (o_v (z1 + (1 : Int64)) (nb1 - 1)))), .second, .val (.long (0 : Int64)), .second, .val (.int (n32 (2 + (nb0 - 1)))), .val (.int (2 : Int32)), .val (.int (1 : Int32)), .val (.int (1 : Int32)), .unset]) rfl (n := 484) rfl ?_
              refine o_iload X79 hx (hb hby at_484) (v := (1 : Int32)) rfl (n := 486) rfl ?_
              refine o_ifN X79 hx (hb hby at_486) (XT.i0_eq_f (by decide)) (n := 489) rfl ?_
              refine o_iload X79 hx (hb hby at_489) (v := (1 : Int32)) rfl (n := 491) rfl ?_
              refine o_ifN X79 hx (hb hby at_491) (XT.i0_eq_f (by decide)) (n := 494) rfl ?_
              refine o_iconst X79 hx (hb hby at_494) (v := (1 : Int32)) rfl (n := 495) rfl ?_
              refine o_goto X79 hx (hb hby at_495) (by decide) (n := 499) (by decide) ?_
              exact o_nreturn X79 hx hret hlk (t := .boolean) (by simp) (hb hby at_499) (by decide) (by decide) e79 ⟨rfl, N80⟩
            · refine o_ifN X79 hx (hb hby at_380) (XT.i0_eq_f hc380) (n := 383) rfl ?_
              refine o_aload X79 hx (hb hby at_383) (v := (.ref b27)) rfl rfl (n := 385) rfl ?_
              refine o_iconst X79 hx (hb hby at_385) (v := (0 : Int32)) rfl (n := 386) rfl ?_
              refine o_laload X79 hx hZ e79 pR_ (0) (by decide) (by decide) (v := (.long ((o_pk D o_N4 z0 z1).getD 0 0))) (o_lgd _ _) (hb hby at_386) (n := 387) rfl ?_
              refine o_lload X79 hx (hb hby at_387) (v := ((o_e0 (z0 + (1 : Int64)) (z1 + (1 : Int64))) ||| (o_shl (o_v (z0 + (1 : Int64)) (nb0 - 1)) (n32 2)))) rfl (n := 389) rfl ?_
              refine o_lcmp X79 hx (hb hby at_389) (n := 390) rfl ?_
              refine o_ifN X79 hx (hb hby at_390) (XT.ll_ne_f w0) (n := 393) rfl ?_
              refine o_iload X79 hx (hb hby at_393) (v := (2 : Int32)) rfl (n := 395) rfl ?_
              refine o_iconst X79 hx (hb hby at_395) (v := (2 : Int32)) rfl (n := 396) rfl ?_
              refine o_icmpN X79 hx (hb hby at_396) (XT.ii_lt_f (by decide)) (n := 399) rfl ?_
              refine o_aload X79 hx (hb hby at_399) (v := (.ref b27)) rfl rfl (n := 401) rfl ?_
              refine o_iconst X79 hx (hb hby at_401) (v := (1 : Int32)) rfl (n := 402) rfl ?_
              refine o_laload X79 hx hZ e79 pR_ (1) (by decide) (by decide) (v := (.long ((o_pk D o_N4 z0 z1).getD 1 0))) (o_lgd _ _) (hb hby at_402) (n := 403) rfl ?_
              refine o_lload X79 hx (hb hby at_403) (v := ((0 : Int64) ||| (o_v (z1 + (1 : Int64)) (nb1 - 1)))) rfl (n := 405) rfl ?_
              refine o_lcmp X79 hx (hb hby at_405) (n := 406) rfl ?_
              refine o_ifN X79 hx (hb hby at_406) (XT.ll_ne_f w1) (n := 409) rfl ?_
              refine o_iload X79 hx (hb hby at_409) (v := (2 : Int32)) rfl (n := 411) rfl ?_
              refine o_iconst X79 hx (hb hby at_411) (v := (3 : Int32)) rfl (n := 412) rfl ?_
              refine o_icmpY X79 hx (hb hby at_412) (XT.ii_lt_t (by decide)) (by decide) (n := 425) (by decide) ?_
              refine o_iconst X79 hx (hb hby at_425) (v := (1 : Int32)) rfl (n := 426) rfl ?_
              refine o_goto X79 hx (hb hby at_426) (by decide) (n := 430) (by decide) ?_
              refine o_istore X79 hx (hb hby at_430) (Ls' := #[.val (.long u0), .second, .val (.long u1), .second, .val (.long v0), .second, .val (.long v1), .second, .val (.int sel), .val (.long z0), .second, .val (.long z1), .second, .val (.long m0), .second, .val (.long m1), .second, .val (.ref b1), .val (.ref b27), .val (.int (o_pr D z0 z1)), .val (.long (z0 + (1 : Int64))), .second, .val (.long (z1 + (1 : Int64))), .second, .val (.int (n32 nb0)), .val (.int (n32 nb1)), .val (.int ft), .val (.long ((o_e0 (z0 + (1 : Int64)) (z1 + (1 : Int64))) ||| (o_shl (o_v (z0 + (1 : Int64)) (nb0 - 1)) (n32 2)))), .second, .val (.long ((0 : Int64) ||| (o_v (z1 + (1 : Int64)) (nb1 - 1)))), .second, .val (.long (0 : Int64)), .second, .val (.int (n32 (2 + (nb0 - 1)))), .val (.int (2 : Int32)), .val (.int (1 : Int32)), .val (.long (o_v (z1 + (1 : Int64)) (nb1 - 1))), .second]) rfl (n := 432) rfl ?_
              refine o_iload X79 hx (hb hby at_432) (v := (2 : Int32)) rfl (n := 434) rfl ?_
              refine o_iconst X79 hx (hb hby at_434) (v := (2 : Int32)) rfl (n := 435) rfl ?_
              refine o_icmpY X79 hx (hb hby at_435) (XT.ii_ge_t (by decide)) (by decide) (n := 449) (by decide) ?_
              refine o_iload X79 hx (hb hby at_449) (v := (2 : Int32)) rfl (n := 451) rfl ?_
              refine o_iconst X79 hx (hb hby at_451) (v := (3 : Int32)) rfl (n := 452) rfl ?_
              refine o_icmpN X79 hx (hb hby at_452) (XT.ii_ge_f (by decide)) (n := 455) rfl ?_
              refine o_aload X79 hx (hb hby at_455) (v := (.ref b27)) rfl rfl (n := 457) rfl ?_
              refine o_iconst X79 hx (hb hby at_457) (v := (2 : Int32)) rfl (n := 458) rfl ?_
              refine o_laload X79 hx hZ e79 pR_ (2) (by decide) (by decide) (v := (.long ((o_pk D o_N4 z0 z1).getD 2 0))) (o_lgd _ _) (hb hby at_458) (n := 459) rfl ?_
              refine o_ldc2_w X79 hx hZ (v := (-1 : Int64)) hown (hw _ (List.mem_of_getElem? (i := 91) rfl)) (hb hby at_459) (n := 462) rfl ?_
              refine o_lcmp X79 hx (hb hby at_462) (n := 463) rfl ?_
              refine o_ifN X79 hx (hb hby at_463) (XT.ll_ne_f w2) (n := 466) rfl ?_
              refine o_aload X79 hx (hb hby at_466) (v := (.ref b27)) rfl rfl (n := 468) rfl ?_
              refine o_iconst X79 hx (hb hby at_468) (v := (3 : Int32)) rfl (n := 469) rfl ?_
              refine o_laload X79 hx hZ e79 pR_ (3) (by decide) (by decide) (v := (.long ((o_pk D o_N4 z0 z1).getD 3 0))) (o_lgd _ _) (hb hby at_469) (n := 470) rfl ?_
              refine o_ldc2_w X79 hx hZ (v := (-1 : Int64)) hown (hw _ (List.mem_of_getElem? (i := 91) rfl)) (hb hby at_470) (n := 473) rfl ?_
              refine o_lcmp X79 hx (hb hby at_473) (n := 474) rfl ?_
              refine o_ifN X79 hx (hb hby at_474) (XT.ll_ne_f w3) (n := 477) rfl ?_
              refine o_iconst X79 hx (hb hby at_477) (v := (1 : Int32)) rfl (n := 478) rfl ?_
              refine o_goto X79 hx (hb hby at_478) (by decide) (n := 482) (by decide) ?_
              refine o_istore X79 hx (hb hby at_482) (Ls' := #[.val (.long u0), .second, .val (.long u1), .second, .val (.long v0), .second, .val (.long v1), .second, .val (.int sel), .val (.long z0), .second, .val (.long z1), .second, .val (.long m0), .second, .val (.long m1), .second, .val (.ref b1), .val (.ref b27), .val (.int (o_pr D z0 z1)), .val (.long (z0 + (1 : Int64))), .second, .val (.long (z1 + (1 : Int64))), .second, .val (.int (n32 nb0)), .val (.int (n32 nb1)), .val (.int ft), .val (.long ((o_e0 (z0 + (1 : Int64)) (z1 + (1 : Int64))) ||| (o_shl (o_v (z0 + (1 : Int64)) (nb0 - 1)) (n32 2)))), .second, .val (.long ((0 : Int64) ||| (o_v (z1 + (1 : Int64)) (nb1 - 1)))), .second, .val (.long (0 : Int64)), .second, .val (.int (n32 (2 + (nb0 - 1)))), .val (.int (2 : Int32)), .val (.int (1 : Int32)), .val (.int (1 : Int32)), .unset]) rfl (n := 484) rfl ?_
              refine o_iload X79 hx (hb hby at_484) (v := (1 : Int32)) rfl (n := 486) rfl ?_
              refine o_ifN X79 hx (hb hby at_486) (XT.i0_eq_f (by decide)) (n := 489) rfl ?_
              refine o_iload X79 hx (hb hby at_489) (v := (1 : Int32)) rfl (n := 491) rfl ?_
              refine o_ifN X79 hx (hb hby at_491) (XT.i0_eq_f (by decide)) (n := 494) rfl ?_
              refine o_iconst X79 hx (hb hby at_494) (v := (1 : Int32)) rfl (n := 495) rfl ?_
              refine o_goto X79 hx (hb hby at_495) (by decide) (n := 499) (by decide) ?_
              exact o_nreturn X79 hx hret hlk (t := .boolean) (by simp) (hb hby at_499) (by decide) (by decide) e79 ⟨rfl, N80⟩
          · refine o_icmpN X79 hx (hb hby at_326) (XT.ii_gt_f hc326) (n := 329) rfl ?_
            refine o_lload X79 hx (hb hby at_329) (v := ((o_e0 (z0 + (1 : Int64)) (z1 + (1 : Int64))) ||| (o_shl (o_v (z0 + (1 : Int64)) (nb0 - 1)) (n32 2)))) rfl (n := 331) rfl ?_
            refine o_lload X79 hx (hb hby at_331) (v := (o_v (z1 + (1 : Int64)) (nb1 - 1))) rfl (n := 333) rfl ?_
            refine o_iload X79 hx (hb hby at_333) (v := (n32 (2 + (nb0 - 1)))) rfl (n := 335) rfl ?_
            refine o_lshl X79 hx (hb hby at_335) (v := (o_shl (o_v (z1 + (1 : Int64)) (nb1 - 1)) (n32 (2 + (nb0 - 1))))) rfl (n := 336) rfl ?_
            refine o_lor X79 hx (hb hby at_336) (v := (((o_e0 (z0 + (1 : Int64)) (z1 + (1 : Int64))) ||| (o_shl (o_v (z0 + (1 : Int64)) (nb0 - 1)) (n32 2))) ||| (o_shl (o_v (z1 + (1 : Int64)) (nb1 - 1)) (n32 (2 + (nb0 - 1)))))) rfl (n := 337) rfl ?_
            refine o_lstore X79 hx (hb hby at_337) (Ls' := #[.val (.long u0), .second, .val (.long u1), .second, .val (.long v0), .second, .val (.long v1), .second, .val (.int sel), .val (.long z0), .second, .val (.long z1), .second, .val (.long m0), .second, .val (.long m1), .second, .val (.ref b1), .val (.ref b27), .val (.int (o_pr D z0 z1)), .val (.long (z0 + (1 : Int64))), .second, .val (.long (z1 + (1 : Int64))), .second, .val (.int (n32 nb0)), .val (.int (n32 nb1)), .val (.int ft), .val (.long (((o_e0 (z0 + (1 : Int64)) (z1 + (1 : Int64))) ||| (o_shl (o_v (z0 + (1 : Int64)) (nb0 - 1)) (n32 2))) ||| (o_shl (o_v (z1 + (1 : Int64)) (nb1 - 1)) (n32 (2 + (nb0 - 1)))))), .second, .val (.long (0 : Int64)), .second, .val (.long (0 : Int64)), .second, .val (.int (n32 (2 + (nb0 - 1)))), .val (.int (1 : Int32)), .val (.int (n32 (nb1 - 1))), .val (.long (o_v (z1 + (1 : Int64)) (nb1 - 1))), .second]) rfl (n := 339) rfl ?_
            refine o_iload X79 hx (hb hby at_339) (v := (n32 (2 + (nb0 - 1)))) rfl (n := 341) rfl ?_
            refine o_iload X79 hx (hb hby at_341) (v := (n32 (nb1 - 1))) rfl (n := 343) rfl ?_
            refine o_iadd X79 hx (hb hby at_343) (v := (n32 ((2 + (nb0 - 1)) + (nb1 - 1)))) (o_nadd (2 + (nb0 - 1)) _) (n := 344) rfl ?_
            refine o_istore X79 hx (hb hby at_344) (Ls' := #[.val (.long u0), .second, .val (.long u1), .second, .val (.long v0), .second, .val (.long v1), .second, .val (.int sel), .val (.long z0), .second, .val (.long z1), .second, .val (.long m0), .second, .val (.long m1), .second, .val (.ref b1), .val (.ref b27), .val (.int (o_pr D z0 z1)), .val (.long (z0 + (1 : Int64))), .second, .val (.long (z1 + (1 : Int64))), .second, .val (.int (n32 nb0)), .val (.int (n32 nb1)), .val (.int ft), .val (.long (((o_e0 (z0 + (1 : Int64)) (z1 + (1 : Int64))) ||| (o_shl (o_v (z0 + (1 : Int64)) (nb0 - 1)) (n32 2))) ||| (o_shl (o_v (z1 + (1 : Int64)) (nb1 - 1)) (n32 (2 + (nb0 - 1)))))), .second, .val (.long (0 : Int64)), .second, .val (.long (0 : Int64)), .second, .val (.int (n32 ((2 + (nb0 - 1)) + (nb1 - 1)))), .val (.int (1 : Int32)), .val (.int (n32 (nb1 - 1))), .val (.long (o_v (z1 + (1 : Int64)) (nb1 - 1))), .second]) rfl (n := 346) rfl ?_
            refine o_goto X79 hx (hb hby at_346) (by decide) (n := 378) (by decide) ?_
            obtain ⟨w0, w1, w2, w3⟩ := o_csff (z0 := z0) (z1 := z1) hP hT l0 l1 hc234 hc262 hc298 hc326
            refine o_iload X79 hx (hb hby at_378) (v := ft) rfl (n := 380) rfl ?_
            by_cases hc380 : ft = (0 : Int32)
            · refine o_ifY X79 hx (hb hby at_380) (XT.i0_eq_t hc380) (by decide) (n := 425) (by decide) ?_
              refine o_iconst X79 hx (hb hby at_425) (v := (1 : Int32)) rfl (n := 426) rfl ?_
              refine o_goto X79 hx (hb hby at_426) (by decide) (n := 430) (by decide) ?_
              refine o_istore X79 hx (hb hby at_430) (Ls' := #[.val (.long u0), .second, .val (.long u1), .second, .val (.long v0), .second, .val (.long v1), .second, .val (.int sel), .val (.long z0), .second, .val (.long z1), .second, .val (.long m0), .second, .val (.long m1), .second, .val (.ref b1), .val (.ref b27), .val (.int (o_pr D z0 z1)), .val (.long (z0 + (1 : Int64))), .second, .val (.long (z1 + (1 : Int64))), .second, .val (.int (n32 nb0)), .val (.int (n32 nb1)), .val (.int ft), .val (.long (((o_e0 (z0 + (1 : Int64)) (z1 + (1 : Int64))) ||| (o_shl (o_v (z0 + (1 : Int64)) (nb0 - 1)) (n32 2))) ||| (o_shl (o_v (z1 + (1 : Int64)) (nb1 - 1)) (n32 (2 + (nb0 - 1)))))), .second, .val (.long (0 : Int64)), .second, .val (.long (0 : Int64)), .second, .val (.int (n32 ((2 + (nb0 - 1)) + (nb1 - 1)))), .val (.int (1 : Int32)), .val (.int (1 : Int32)), .val (.long (o_v (z1 + (1 : Int64)) (nb1 - 1))), .second]) rfl (n := 432) rfl ?_
              refine o_iload X79 hx (hb hby at_432) (v := (1 : Int32)) rfl (n := 434) rfl ?_
              refine o_iconst X79 hx (hb hby at_434) (v := (2 : Int32)) rfl (n := 435) rfl ?_
              refine o_icmpN X79 hx (hb hby at_435) (XT.ii_ge_f (by decide)) (n := 438) rfl ?_
              refine o_aload X79 hx (hb hby at_438) (v := (.ref b27)) rfl rfl (n := 440) rfl ?_
              refine o_iconst X79 hx (hb hby at_440) (v := (1 : Int32)) rfl (n := 441) rfl ?_
              refine o_laload X79 hx hZ e79 pR_ (1) (by decide) (by decide) (v := (.long ((o_pk D o_N4 z0 z1).getD 1 0))) (o_lgd _ _) (hb hby at_441) (n := 442) rfl ?_
              refine o_ldc2_w X79 hx hZ (v := (-1 : Int64)) hown (hw _ (List.mem_of_getElem? (i := 91) rfl)) (hb hby at_442) (n := 445) rfl ?_
              refine o_lcmp X79 hx (hb hby at_445) (n := 446) rfl ?_
              refine o_ifN X79 hx (hb hby at_446) (XT.ll_ne_f w1) (n := 449) rfl ?_
              refine o_iload X79 hx (hb hby at_449) (v := (1 : Int32)) rfl (n := 451) rfl ?_
              refine o_iconst X79 hx (hb hby at_451) (v := (3 : Int32)) rfl (n := 452) rfl ?_
              refine o_icmpN X79 hx (hb hby at_452) (XT.ii_ge_f (by decide)) (n := 455) rfl ?_
              refine o_aload X79 hx (hb hby at_455) (v := (.ref b27)) rfl rfl (n := 457) rfl ?_
              refine o_iconst X79 hx (hb hby at_457) (v := (2 : Int32)) rfl (n := 458) rfl ?_
              refine o_laload X79 hx hZ e79 pR_ (2) (by decide) (by decide) (v := (.long ((o_pk D o_N4 z0 z1).getD 2 0))) (o_lgd _ _) (hb hby at_458) (n := 459) rfl ?_
              refine o_ldc2_w X79 hx hZ (v := (-1 : Int64)) hown (hw _ (List.mem_of_getElem? (i := 91) rfl)) (hb hby at_459) (n := 462) rfl ?_
              refine o_lcmp X79 hx (hb hby at_462) (n := 463) rfl ?_
              refine o_ifN X79 hx (hb hby at_463) (XT.ll_ne_f w2) (n := 466) rfl ?_
              refine o_aload X79 hx (hb hby at_466) (v := (.ref b27)) rfl rfl (n := 468) rfl ?_
              refine o_iconst X79 hx (hb hby at_468) (v := (3 : Int32)) rfl (n := 469) rfl ?_
              refine o_laload X79 hx hZ e79 pR_ (3) (by decide) (by decide) (v := (.long ((o_pk D o_N4 z0 z1).getD 3 0))) (o_lgd _ _) (hb hby at_469) (n := 470) rfl ?_
              refine o_ldc2_w X79 hx hZ (v := (-1 : Int64)) hown (hw _ (List.mem_of_getElem? (i := 91) rfl)) (hb hby at_470) (n := 473) rfl ?_
              refine o_lcmp X79 hx (hb hby at_473) (n := 474) rfl ?_
              refine o_ifN X79 hx (hb hby at_474) (XT.ll_ne_f w3) (n := 477) rfl ?_
              refine o_iconst X79 hx (hb hby at_477) (v := (1 : Int32)) rfl (n := 478) rfl ?_
              refine o_goto X79 hx (hb hby at_478) (by decide) (n := 482) (by decide) ?_
              refine o_istore X79 hx (hb hby at_482) (Ls' := #[.val (.long u0), .second, .val (.long u1), .second, .val (.long v0), .second, .val (.long v1), .second, .val (.int sel), .val (.long z0), .second, .val (.long z1), .second, .val (.long m0), .second, .val (.long m1), .second, .val (.ref b1), .val (.ref b27), .val (.int (o_pr D z0 z1)), .val (.long (z0 + (1 : Int64))), .second, .val (.long (z1 + (1 : Int64))), .second, .val (.int (n32 nb0)), .val (.int (n32 nb1)), .val (.int ft), .val (.long (((o_e0 (z0 + (1 : Int64)) (z1 + (1 : Int64))) ||| (o_shl (o_v (z0 + (1 : Int64)) (nb0 - 1)) (n32 2))) ||| (o_shl (o_v (z1 + (1 : Int64)) (nb1 - 1)) (n32 (2 + (nb0 - 1)))))), .second, .val (.long (0 : Int64)), .second, .val (.long (0 : Int64)), .second, .val (.int (n32 ((2 + (nb0 - 1)) + (nb1 - 1)))), .val (.int (1 : Int32)), .val (.int (1 : Int32)), .val (.int (1 : Int32)), .unset]) rfl (n := 484) rfl ?_
              refine o_iload X79 hx (hb hby at_484) (v := (1 : Int32)) rfl (n := 486) rfl ?_
              refine o_ifN X79 hx (hb hby at_486) (XT.i0_eq_f (by decide)) (n := 489) rfl ?_
              refine o_iload X79 hx (hb hby at_489) (v := (1 : Int32)) rfl (n := 491) rfl ?_
              refine o_ifN X79 hx (hb hby at_491) (XT.i0_eq_f (by decide)) (n := 494) rfl ?_
              refine o_iconst X79 hx (hb hby at_494) (v := (1 : Int32)) rfl (n := 495) rfl ?_
              refine o_goto X79 hx (hb hby at_495) (by decide) (n := 499) (by decide) ?_
              exact o_nreturn X79 hx hret hlk (t := .boolean) (by simp) (hb hby at_499) (by decide) (by decide) e79 ⟨rfl, N80⟩
            · refine o_ifN X79 hx (hb hby at_380) (XT.i0_eq_f hc380) (n := 383) rfl ?_
              refine o_aload X79 hx (hb hby at_383) (v := (.ref b27)) rfl rfl (n := 385) rfl ?_
              refine o_iconst X79 hx (hb hby at_385) (v := (0 : Int32)) rfl (n := 386) rfl ?_
              refine o_laload X79 hx hZ e79 pR_ (0) (by decide) (by decide) (v := (.long ((o_pk D o_N4 z0 z1).getD 0 0))) (o_lgd _ _) (hb hby at_386) (n := 387) rfl ?_
              refine o_lload X79 hx (hb hby at_387) (v := (((o_e0 (z0 + (1 : Int64)) (z1 + (1 : Int64))) ||| (o_shl (o_v (z0 + (1 : Int64)) (nb0 - 1)) (n32 2))) ||| (o_shl (o_v (z1 + (1 : Int64)) (nb1 - 1)) (n32 (2 + (nb0 - 1)))))) rfl (n := 389) rfl ?_
              refine o_lcmp X79 hx (hb hby at_389) (n := 390) rfl ?_
              refine o_ifN X79 hx (hb hby at_390) (XT.ll_ne_f w0) (n := 393) rfl ?_
              refine o_iload X79 hx (hb hby at_393) (v := (1 : Int32)) rfl (n := 395) rfl ?_
              refine o_iconst X79 hx (hb hby at_395) (v := (2 : Int32)) rfl (n := 396) rfl ?_
              refine o_icmpY X79 hx (hb hby at_396) (XT.ii_lt_t (by decide)) (by decide) (n := 409) (by decide) ?_
              refine o_iload X79 hx (hb hby at_409) (v := (1 : Int32)) rfl (n := 411) rfl ?_
              refine o_iconst X79 hx (hb hby at_411) (v := (3 : Int32)) rfl (n := 412) rfl ?_
              refine o_icmpY X79 hx (hb hby at_412) (XT.ii_lt_t (by decide)) (by decide) (n := 425) (by decide) ?_
              refine o_iconst X79 hx (hb hby at_425) (v := (1 : Int32)) rfl (n := 426) rfl ?_
              refine o_goto X79 hx (hb hby at_426) (by decide) (n := 430) (by decide) ?_
              refine o_istore X79 hx (hb hby at_430) (Ls' := #[.val (.long u0), .second, .val (.long u1), .second, .val (.long v0), .second, .val (.long v1), .second, .val (.int sel), .val (.long z0), .second, .val (.long z1), .second, .val (.long m0), .second, .val (.long m1), .second, .val (.ref b1), .val (.ref b27), .val (.int (o_pr D z0 z1)), .val (.long (z0 + (1 : Int64))), .second, .val (.long (z1 + (1 : Int64))), .second, .val (.int (n32 nb0)), .val (.int (n32 nb1)), .val (.int ft), .val (.long (((o_e0 (z0 + (1 : Int64)) (z1 + (1 : Int64))) ||| (o_shl (o_v (z0 + (1 : Int64)) (nb0 - 1)) (n32 2))) ||| (o_shl (o_v (z1 + (1 : Int64)) (nb1 - 1)) (n32 (2 + (nb0 - 1)))))), .second, .val (.long (0 : Int64)), .second, .val (.long (0 : Int64)), .second, .val (.int (n32 ((2 + (nb0 - 1)) + (nb1 - 1)))), .val (.int (1 : Int32)), .val (.int (1 : Int32)), .val (.long (o_v (z1 + (1 : Int64)) (nb1 - 1))), .second]) rfl (n := 432) rfl ?_
              refine o_iload X79 hx (hb hby at_432) (v := (1 : Int32)) rfl (n := 434) rfl ?_
              refine o_iconst X79 hx (hb hby at_434) (v := (2 : Int32)) rfl (n := 435) rfl ?_
              refine o_icmpN X79 hx (hb hby at_435) (XT.ii_ge_f (by decide)) (n := 438) rfl ?_
              refine o_aload X79 hx (hb hby at_438) (v := (.ref b27)) rfl rfl (n := 440) rfl ?_
              refine o_iconst X79 hx (hb hby at_440) (v := (1 : Int32)) rfl (n := 441) rfl ?_
              refine o_laload X79 hx hZ e79 pR_ (1) (by decide) (by decide) (v := (.long ((o_pk D o_N4 z0 z1).getD 1 0))) (o_lgd _ _) (hb hby at_441) (n := 442) rfl ?_
              refine o_ldc2_w X79 hx hZ (v := (-1 : Int64)) hown (hw _ (List.mem_of_getElem? (i := 91) rfl)) (hb hby at_442) (n := 445) rfl ?_
              refine o_lcmp X79 hx (hb hby at_445) (n := 446) rfl ?_
              refine o_ifN X79 hx (hb hby at_446) (XT.ll_ne_f w1) (n := 449) rfl ?_
              refine o_iload X79 hx (hb hby at_449) (v := (1 : Int32)) rfl (n := 451) rfl ?_
              refine o_iconst X79 hx (hb hby at_451) (v := (3 : Int32)) rfl (n := 452) rfl ?_
              refine o_icmpN X79 hx (hb hby at_452) (XT.ii_ge_f (by decide)) (n := 455) rfl ?_
              refine o_aload X79 hx (hb hby at_455) (v := (.ref b27)) rfl rfl (n := 457) rfl ?_
              refine o_iconst X79 hx (hb hby at_457) (v := (2 : Int32)) rfl (n := 458) rfl ?_
              refine o_laload X79 hx hZ e79 pR_ (2) (by decide) (by decide) (v := (.long ((o_pk D o_N4 z0 z1).getD 2 0))) (o_lgd _ _) (hb hby at_458) (n := 459) rfl ?_
              refine o_ldc2_w X79 hx hZ (v := (-1 : Int64)) hown (hw _ (List.mem_of_getElem? (i := 91) rfl)) (hb hby at_459) (n := 462) rfl ?_
              refine o_lcmp X79 hx (hb hby at_462) (n := 463) rfl ?_
              refine o_ifN X79 hx (hb hby at_463) (XT.ll_ne_f w2) (n := 466) rfl ?_
              refine o_aload X79 hx (hb hby at_466) (v := (.ref b27)) rfl rfl (n := 468) rfl ?_
              refine o_iconst X79 hx (hb hby at_468) (v := (3 : Int32)) rfl (n := 469) rfl ?_
              refine o_laload X79 hx hZ e79 pR_ (3) (by decide) (by decide) (v := (.long ((o_pk D o_N4 z0 z1).getD 3 0))) (o_lgd _ _) (hb hby at_469) (n := 470) rfl ?_
              refine o_ldc2_w X79 hx hZ (v := (-1 : Int64)) hown (hw _ (List.mem_of_getElem? (i := 91) rfl)) (hb hby at_470) (n := 473) rfl ?_
              refine o_lcmp X79 hx (hb hby at_473) (n := 474) rfl ?_
              refine o_ifN X79 hx (hb hby at_474) (XT.ll_ne_f w3) (n := 477) rfl ?_
              refine o_iconst X79 hx (hb hby at_477) (v := (1 : Int32)) rfl (n := 478) rfl ?_
              refine o_goto X79 hx (hb hby at_478) (by decide) (n := 482) (by decide) ?_
              refine o_istore X79 hx (hb hby at_482) (Ls' := #[.val (.long u0), .second, .val (.long u1), .second, .val (.long v0), .second, .val (.long v1), .second, .val (.int sel), .val (.long z0), .second, .val (.long z1), .second, .val (.long m0), .second, .val (.long m1), .second, .val (.ref b1), .val (.ref b27), .val (.int (o_pr D z0 z1)), .val (.long (z0 + (1 : Int64))), .second, .val (.long (z1 + (1 : Int64))), .second, .val (.int (n32 nb0)), .val (.int (n32 nb1)), .val (.int ft), .val (.long (((o_e0 (z0 + (1 : Int64)) (z1 + (1 : Int64))) ||| (o_shl (o_v (z0 + (1 : Int64)) (nb0 - 1)) (n32 2))) ||| (o_shl (o_v (z1 + (1 : Int64)) (nb1 - 1)) (n32 (2 + (nb0 - 1)))))), .second, .val (.long (0 : Int64)), .second, .val (.long (0 : Int64)), .second, .val (.int (n32 ((2 + (nb0 - 1)) + (nb1 - 1)))), .val (.int (1 : Int32)), .val (.int (1 : Int32)), .val (.int (1 : Int32)), .unset]) rfl (n := 484) rfl ?_
              refine o_iload X79 hx (hb hby at_484) (v := (1 : Int32)) rfl (n := 486) rfl ?_
              refine o_ifN X79 hx (hb hby at_486) (XT.i0_eq_f (by decide)) (n := 489) rfl ?_
              refine o_iload X79 hx (hb hby at_489) (v := (1 : Int32)) rfl (n := 491) rfl ?_
              refine o_ifN X79 hx (hb hby at_491) (XT.i0_eq_f (by decide)) (n := 494) rfl ?_
              refine o_iconst X79 hx (hb hby at_494) (v := (1 : Int32)) rfl (n := 495) rfl ?_
              refine o_goto X79 hx (hb hby at_495) (by decide) (n := 499) (by decide) ?_
              exact o_nreturn X79 hx hret hlk (t := .boolean) (by simp) (hb hby at_499) (by decide) (by decide) e79 ⟨rfl, N80⟩
        · refine o_icmpY X75 hx (hb hby at_298) (XT.ii_le_t hc298) (by decide) (n := 378) (by decide) ?_
          obtain ⟨w0, w1, w2, w3⟩ := o_csfn (z0 := z0) (z1 := z1) hP hT l0 l1 hc234 hc262 hc298
          refine o_iload X75 hx (hb hby at_378) (v := ft) rfl (n := 380) rfl ?_
          by_cases hc380 : ft = (0 : Int32)
          · refine o_ifY X75 hx (hb hby at_380) (XT.i0_eq_t hc380) (by decide) (n := 425) (by decide) ?_
            refine o_iconst X75 hx (hb hby at_425) (v := (1 : Int32)) rfl (n := 426) rfl ?_
            refine o_goto X75 hx (hb hby at_426) (by decide) (n := 430) (by decide) ?_
            refine o_istore X75 hx (hb hby at_430) (Ls' := #[.val (.long u0), .second, .val (.long u1), .second, .val (.long v0), .second, .val (.long v1), .second, .val (.int sel), .val (.long z0), .second, .val (.long z1), .second, .val (.long m0), .second, .val (.long m1), .second, .val (.ref b1), .val (.ref b27), .val (.int (o_pr D z0 z1)), .val (.long (z0 + (1 : Int64))), .second, .val (.long (z1 + (1 : Int64))), .second, .val (.int (n32 nb0)), .val (.int (n32 nb1)), .val (.int ft), .val (.long ((o_e0 (z0 + (1 : Int64)) (z1 + (1 : Int64))) ||| (o_shl (o_v (z0 + (1 : Int64)) (nb0 - 1)) (n32 2)))), .second, .val (.long (0 : Int64)), .second, .val (.long (0 : Int64)), .second, .val (.int (n32 (2 + (nb0 - 1)))), .val (.int (1 : Int32)), .val (.int (1 : Int32)), .val (.long (o_v (z0 + (1 : Int64)) (nb0 - 1))), .second]) rfl (n := 432) rfl ?_
            refine o_iload X75 hx (hb hby at_432) (v := (1 : Int32)) rfl (n := 434) rfl ?_
            refine o_iconst X75 hx (hb hby at_434) (v := (2 : Int32)) rfl (n := 435) rfl ?_
            refine o_icmpN X75 hx (hb hby at_435) (XT.ii_ge_f (by decide)) (n := 438) rfl ?_
            refine o_aload X75 hx (hb hby at_438) (v := (.ref b27)) rfl rfl (n := 440) rfl ?_
            refine o_iconst X75 hx (hb hby at_440) (v := (1 : Int32)) rfl (n := 441) rfl ?_
            refine o_laload X75 hx hZ e75 pR_ (1) (by decide) (by decide) (v := (.long ((o_pk D o_N4 z0 z1).getD 1 0))) (o_lgd _ _) (hb hby at_441) (n := 442) rfl ?_
            refine o_ldc2_w X75 hx hZ (v := (-1 : Int64)) hown (hw _ (List.mem_of_getElem? (i := 91) rfl)) (hb hby at_442) (n := 445) rfl ?_
            refine o_lcmp X75 hx (hb hby at_445) (n := 446) rfl ?_
            refine o_ifN X75 hx (hb hby at_446) (XT.ll_ne_f w1) (n := 449) rfl ?_
            refine o_iload X75 hx (hb hby at_449) (v := (1 : Int32)) rfl (n := 451) rfl ?_
            refine o_iconst X75 hx (hb hby at_451) (v := (3 : Int32)) rfl (n := 452) rfl ?_
            refine o_icmpN X75 hx (hb hby at_452) (XT.ii_ge_f (by decide)) (n := 455) rfl ?_
            refine o_aload X75 hx (hb hby at_455) (v := (.ref b27)) rfl rfl (n := 457) rfl ?_
            refine o_iconst X75 hx (hb hby at_457) (v := (2 : Int32)) rfl (n := 458) rfl ?_
            refine o_laload X75 hx hZ e75 pR_ (2) (by decide) (by decide) (v := (.long ((o_pk D o_N4 z0 z1).getD 2 0))) (o_lgd _ _) (hb hby at_458) (n := 459) rfl ?_
            refine o_ldc2_w X75 hx hZ (v := (-1 : Int64)) hown (hw _ (List.mem_of_getElem? (i := 91) rfl)) (hb hby at_459) (n := 462) rfl ?_
            refine o_lcmp X75 hx (hb hby at_462) (n := 463) rfl ?_
            refine o_ifN X75 hx (hb hby at_463) (XT.ll_ne_f w2) (n := 466) rfl ?_
            refine o_aload X75 hx (hb hby at_466) (v := (.ref b27)) rfl rfl (n := 468) rfl ?_
            refine o_iconst X75 hx (hb hby at_468) (v := (3 : Int32)) rfl (n := 469) rfl ?_
            refine o_laload X75 hx hZ e75 pR_ (3) (by decide) (by decide) (v := (.long ((o_pk D o_N4 z0 z1).getD 3 0))) (o_lgd _ _) (hb hby at_469) (n := 470) rfl ?_
            refine o_ldc2_w X75 hx hZ (v := (-1 : Int64)) hown (hw _ (List.mem_of_getElem? (i := 91) rfl)) (hb hby at_470) (n := 473) rfl ?_
            refine o_lcmp X75 hx (hb hby at_473) (n := 474) rfl ?_
            refine o_ifN X75 hx (hb hby at_474) (XT.ll_ne_f w3) (n := 477) rfl ?_
            refine o_iconst X75 hx (hb hby at_477) (v := (1 : Int32)) rfl (n := 478) rfl ?_
            refine o_goto X75 hx (hb hby at_478) (by decide) (n := 482) (by decide) ?_
            refine o_istore X75 hx (hb hby at_482) (Ls' := #[.val (.long u0), .second, .val (.long u1), .second, .val (.long v0), .second, .val (.long v1), .second, .val (.int sel), .val (.long z0), .second, .val (.long z1), .second, .val (.long m0), .second, .val (.long m1), .second, .val (.ref b1), .val (.ref b27), .val (.int (o_pr D z0 z1)), .val (.long (z0 + (1 : Int64))), .second, .val (.long (z1 + (1 : Int64))), .second, .val (.int (n32 nb0)), .val (.int (n32 nb1)), .val (.int ft), .val (.long ((o_e0 (z0 + (1 : Int64)) (z1 + (1 : Int64))) ||| (o_shl (o_v (z0 + (1 : Int64)) (nb0 - 1)) (n32 2)))), .second, .val (.long (0 : Int64)), .second, .val (.long (0 : Int64)), .second, .val (.int (n32 (2 + (nb0 - 1)))), .val (.int (1 : Int32)), .val (.int (1 : Int32)), .val (.int (1 : Int32)), .unset]) rfl (n := 484) rfl ?_
            refine o_iload X75 hx (hb hby at_484) (v := (1 : Int32)) rfl (n := 486) rfl ?_
            refine o_ifN X75 hx (hb hby at_486) (XT.i0_eq_f (by decide)) (n := 489) rfl ?_
            refine o_iload X75 hx (hb hby at_489) (v := (1 : Int32)) rfl (n := 491) rfl ?_
            refine o_ifN X75 hx (hb hby at_491) (XT.i0_eq_f (by decide)) (n := 494) rfl ?_
            refine o_iconst X75 hx (hb hby at_494) (v := (1 : Int32)) rfl (n := 495) rfl ?_
            refine o_goto X75 hx (hb hby at_495) (by decide) (n := 499) (by decide) ?_
            exact o_nreturn X75 hx hret hlk (t := .boolean) (by simp) (hb hby at_499) (by decide) (by decide) e75 ⟨rfl, N76⟩
          · refine o_ifN X75 hx (hb hby at_380) (XT.i0_eq_f hc380) (n := 383) rfl ?_
            refine o_aload X75 hx (hb hby at_383) (v := (.ref b27)) rfl rfl (n := 385) rfl ?_
            refine o_iconst X75 hx (hb hby at_385) (v := (0 : Int32)) rfl (n := 386) rfl ?_
            refine o_laload X75 hx hZ e75 pR_ (0) (by decide) (by decide) (v := (.long ((o_pk D o_N4 z0 z1).getD 0 0))) (o_lgd _ _) (hb hby at_386) (n := 387) rfl ?_
            refine o_lload X75 hx (hb hby at_387) (v := ((o_e0 (z0 + (1 : Int64)) (z1 + (1 : Int64))) ||| (o_shl (o_v (z0 + (1 : Int64)) (nb0 - 1)) (n32 2)))) rfl (n := 389) rfl ?_
            refine o_lcmp X75 hx (hb hby at_389) (n := 390) rfl ?_
            refine o_ifN X75 hx (hb hby at_390) (XT.ll_ne_f w0) (n := 393) rfl ?_
            refine o_iload X75 hx (hb hby at_393) (v := (1 : Int32)) rfl (n := 395) rfl ?_
            refine o_iconst X75 hx (hb hby at_395) (v := (2 : Int32)) rfl (n := 396) rfl ?_
            refine o_icmpY X75 hx (hb hby at_396) (XT.ii_lt_t (by decide)) (by decide) (n := 409) (by decide) ?_
            refine o_iload X75 hx (hb hby at_409) (v := (1 : Int32)) rfl (n := 411) rfl ?_
            refine o_iconst X75 hx (hb hby at_411) (v := (3 : Int32)) rfl (n := 412) rfl ?_
            refine o_icmpY X75 hx (hb hby at_412) (XT.ii_lt_t (by decide)) (by decide) (n := 425) (by decide) ?_
            refine o_iconst X75 hx (hb hby at_425) (v := (1 : Int32)) rfl (n := 426) rfl ?_
            refine o_goto X75 hx (hb hby at_426) (by decide) (n := 430) (by decide) ?_
            refine o_istore X75 hx (hb hby at_430) (Ls' := #[.val (.long u0), .second, .val (.long u1), .second, .val (.long v0), .second, .val (.long v1), .second, .val (.int sel), .val (.long z0), .second, .val (.long z1), .second, .val (.long m0), .second, .val (.long m1), .second, .val (.ref b1), .val (.ref b27), .val (.int (o_pr D z0 z1)), .val (.long (z0 + (1 : Int64))), .second, .val (.long (z1 + (1 : Int64))), .second, .val (.int (n32 nb0)), .val (.int (n32 nb1)), .val (.int ft), .val (.long ((o_e0 (z0 + (1 : Int64)) (z1 + (1 : Int64))) ||| (o_shl (o_v (z0 + (1 : Int64)) (nb0 - 1)) (n32 2)))), .second, .val (.long (0 : Int64)), .second, .val (.long (0 : Int64)), .second, .val (.int (n32 (2 + (nb0 - 1)))), .val (.int (1 : Int32)), .val (.int (1 : Int32)), .val (.long (o_v (z0 + (1 : Int64)) (nb0 - 1))), .second]) rfl (n := 432) rfl ?_
            refine o_iload X75 hx (hb hby at_432) (v := (1 : Int32)) rfl (n := 434) rfl ?_
            refine o_iconst X75 hx (hb hby at_434) (v := (2 : Int32)) rfl (n := 435) rfl ?_
            refine o_icmpN X75 hx (hb hby at_435) (XT.ii_ge_f (by decide)) (n := 438) rfl ?_
            refine o_aload X75 hx (hb hby at_438) (v := (.ref b27)) rfl rfl (n := 440) rfl ?_
            refine o_iconst X75 hx (hb hby at_440) (v := (1 : Int32)) rfl (n := 441) rfl ?_
            refine o_laload X75 hx hZ e75 pR_ (1) (by decide) (by decide) (v := (.long ((o_pk D o_N4 z0 z1).getD 1 0))) (o_lgd _ _) (hb hby at_441) (n := 442) rfl ?_
            refine o_ldc2_w X75 hx hZ (v := (-1 : Int64)) hown (hw _ (List.mem_of_getElem? (i := 91) rfl)) (hb hby at_442) (n := 445) rfl ?_
            refine o_lcmp X75 hx (hb hby at_445) (n := 446) rfl ?_
            refine o_ifN X75 hx (hb hby at_446) (XT.ll_ne_f w1) (n := 449) rfl ?_
            refine o_iload X75 hx (hb hby at_449) (v := (1 : Int32)) rfl (n := 451) rfl ?_
            refine o_iconst X75 hx (hb hby at_451) (v := (3 : Int32)) rfl (n := 452) rfl ?_
            refine o_icmpN X75 hx (hb hby at_452) (XT.ii_ge_f (by decide)) (n := 455) rfl ?_
            refine o_aload X75 hx (hb hby at_455) (v := (.ref b27)) rfl rfl (n := 457) rfl ?_
            refine o_iconst X75 hx (hb hby at_457) (v := (2 : Int32)) rfl (n := 458) rfl ?_
            refine o_laload X75 hx hZ e75 pR_ (2) (by decide) (by decide) (v := (.long ((o_pk D o_N4 z0 z1).getD 2 0))) (o_lgd _ _) (hb hby at_458) (n := 459) rfl ?_
            refine o_ldc2_w X75 hx hZ (v := (-1 : Int64)) hown (hw _ (List.mem_of_getElem? (i := 91) rfl)) (hb hby at_459) (n := 462) rfl ?_
            refine o_lcmp X75 hx (hb hby at_462) (n := 463) rfl ?_
            refine o_ifN X75 hx (hb hby at_463) (XT.ll_ne_f w2) (n := 466) rfl ?_
            refine o_aload X75 hx (hb hby at_466) (v := (.ref b27)) rfl rfl (n := 468) rfl ?_
            refine o_iconst X75 hx (hb hby at_468) (v := (3 : Int32)) rfl (n := 469) rfl ?_
            refine o_laload X75 hx hZ e75 pR_ (3) (by decide) (by decide) (v := (.long ((o_pk D o_N4 z0 z1).getD 3 0))) (o_lgd _ _) (hb hby at_469) (n := 470) rfl ?_
            refine o_ldc2_w X75 hx hZ (v := (-1 : Int64)) hown (hw _ (List.mem_of_getElem? (i := 91) rfl)) (hb hby at_470) (n := 473) rfl ?_
            refine o_lcmp X75 hx (hb hby at_473) (n := 474) rfl ?_
            refine o_ifN X75 hx (hb hby at_474) (XT.ll_ne_f w3) (n := 477) rfl ?_
            refine o_iconst X75 hx (hb hby at_477) (v := (1 : Int32)) rfl (n := 478) rfl ?_
            refine o_goto X75 hx (hb hby at_478) (by decide) (n := 482) (by decide) ?_
            refine o_istore X75 hx (hb hby at_482) (Ls' := #[.val (.long u0), .second, .val (.long u1), .second, .val (.long v0), .second, .val (.long v1), .second, .val (.int sel), .val (.long z0), .second, .val (.long z1), .second, .val (.long m0), .second, .val (.long m1), .second, .val (.ref b1), .val (.ref b27), .val (.int (o_pr D z0 z1)), .val (.long (z0 + (1 : Int64))), .second, .val (.long (z1 + (1 : Int64))), .second, .val (.int (n32 nb0)), .val (.int (n32 nb1)), .val (.int ft), .val (.long ((o_e0 (z0 + (1 : Int64)) (z1 + (1 : Int64))) ||| (o_shl (o_v (z0 + (1 : Int64)) (nb0 - 1)) (n32 2)))), .second, .val (.long (0 : Int64)), .second, .val (.long (0 : Int64)), .second, .val (.int (n32 (2 + (nb0 - 1)))), .val (.int (1 : Int32)), .val (.int (1 : Int32)), .val (.int (1 : Int32)), .unset]) rfl (n := 484) rfl ?_
            refine o_iload X75 hx (hb hby at_484) (v := (1 : Int32)) rfl (n := 486) rfl ?_
            refine o_ifN X75 hx (hb hby at_486) (XT.i0_eq_f (by decide)) (n := 489) rfl ?_
            refine o_iload X75 hx (hb hby at_489) (v := (1 : Int32)) rfl (n := 491) rfl ?_
            refine o_ifN X75 hx (hb hby at_491) (XT.i0_eq_f (by decide)) (n := 494) rfl ?_
            refine o_iconst X75 hx (hb hby at_494) (v := (1 : Int32)) rfl (n := 495) rfl ?_
            refine o_goto X75 hx (hb hby at_495) (by decide) (n := 499) (by decide) ?_
            exact o_nreturn X75 hx hret hlk (t := .boolean) (by simp) (hb hby at_499) (by decide) (by decide) e75 ⟨rfl, N76⟩
    · refine o_icmpY X_ hx (hb hby at_234) (XT.ii_le_t hc234) (by decide) (n := 295) (by decide) ?_
      refine o_iload X_ hx (hb hby at_295) (v := (n32 nb1)) rfl (n := 297) rfl ?_
      refine o_iconst X_ hx (hb hby at_297) (v := (1 : Int32)) rfl (n := 298) rfl ?_
      by_cases hc298 : (1 : Int32) < (n32 nb1)
      · refine o_icmpN X_ hx (hb hby at_298) (XT.ii_le_f hc298) (n := 301) rfl ?_
        have g1' : 1 < nb1 := (o_nlt (a := 1) (by decide) (Nat.lt_of_le_of_lt l1 (by decide))).mp hc298
        refine o_iload X_ hx (hb hby at_301) (v := (n32 nb1)) rfl (n := 303) rfl ?_
        refine o_iconst X_ hx (hb hby at_303) (v := (1 : Int32)) rfl (n := 304) rfl ?_
        refine o_isub X_ hx (hb hby at_304) (v := (n32 (nb1 - 1))) (o_nsub (b := 1) lo1 (Nat.lt_of_le_of_lt l1 (by decide))) (n := 305) rfl ?_
        refine o_istore X_ hx (hb hby at_305) (Ls' := #[.val (.long u0), .second, .val (.long u1), .second, .val (.long v0), .second, .val (.long v1), .second, .val (.int sel), .val (.long z0), .second, .val (.long z1), .second, .val (.long m0), .second, .val (.long m1), .second, .val (.ref b1), .val (.ref b27), .val (.int (o_pr D z0 z1)), .val (.long (z0 + (1 : Int64))), .second, .val (.long (z1 + (1 : Int64))), .second, .val (.int (n32 nb0)), .val (.int (n32 nb1)), .val (.int ft), .val (.long (o_e0 (z0 + (1 : Int64)) (z1 + (1 : Int64)))), .second, .val (.long (0 : Int64)), .second, .val (.long (0 : Int64)), .second, .val (.int (2 : Int32)), .val (.int (1 : Int32)), .val (.int (n32 (nb1 - 1))), .unset, .unset]) rfl (n := 307) rfl ?_
        refine o_lload X_ hx (hb hby at_307) (v := (z1 + (1 : Int64))) rfl (n := 309) rfl ?_
        refine o_iconst X_ hx (hb hby at_309) (v := (1 : Int32)) rfl (n := 310) rfl ?_
        refine o_lushr X_ hx (hb hby at_310) (v := (o_shr (z1 + (1 : Int64)) (n32 1))) rfl (n := 311) rfl ?_
        refine o_iload X_ hx (hb hby at_311) (v := (n32 (nb1 - 1))) rfl (n := 313) rfl ?_
        refine o_callS X_ hx hZ hown (hw _ (List.mem_of_getElem? (i := 106) rfl)) (hw _ (List.mem_of_getElem? (i := 107) rfl)) (hw _ (List.mem_of_getElem? (i := 99) rfl)) (hw _ (List.mem_of_getElem? (i := 108) rfl)) (by decide) e_ (argsL := [(.int (n32 (nb1 - 1)))]) (rest := [(.long (o_shr (z1 + (1 : Int64)) (n32 1)))]) ((o_onM (o_km g1') (Nat.le_trans (Nat.sub_le _ _) l1)) ▸ c_ones l Z a0 hw (n32 (nb1 - 1)) h_) 2 (by decide) (by decide) (by decide) (by decide) (by rw [hml]; rfl) (lenOf o_pd13 rfl) rfl (Nat.le_of_eq rfl) (hb hby at_313) (n := 316) rfl ?_
        intro v81 T81 L81 X81 q81
        obtain ⟨rfl, e81, rfl⟩ := q81
        have N82 := Fr.app N_ (Fr.nil n0)
        show Goes p e below s _ _ _ (T81.setTop (mkF m 316 #[.val (.long u0), .second, .val (.long u1), .second, .val (.long v0), .second, .val (.long v1), .second, .val (.int sel), .val (.long z0), .second, .val (.long z1), .second, .val (.long m0), .second, .val (.long m1), .second, .val (.ref b1), .val (.ref b27), .val (.int (o_pr D z0 z1)), .val (.long (z0 + (1 : Int64))), .second, .val (.long (z1 + (1 : Int64))), .second, .val (.int (n32 nb0)), .val (.int (n32 nb1)), .val (.int ft), .val (.long (o_e0 (z0 + (1 : Int64)) (z1 + (1 : Int64)))), .second, .val (.long (0 : Int64)), .second, .val (.long (0 : Int64)), .second, .val (.int (2 : Int32)), .val (.int (1 : Int32)), .val (.int (n32 (nb1 - 1))), .unset, .unset] [(.long (o_mk (n32 (nb1 - 1)))), (.long (o_shr (z1 + (1 : Int64)) (n32 1)))]))
        refine o_land X81 hx (hb hby at_316) (v := (o_v (z1 + (1 : Int64)) (nb1 - 1))) rfl (n := 317) rfl ?_
        refine o_lstore X81 hx (hb hby at_317) (Ls' := #[.val (.long u0), .second, .val (.long u1), .second, .val (.long v0), .second, .val (.long v1), .second, .val (.int sel), .val (.long z0), .second, .val (.long z1), .second, .val (.long m0), .second, .val (.long m1), .second, .val (.ref b1), .val (.ref b27), .val (.int (o_pr D z0 z1)), .val (.long (z0 + (1 : Int64))), .second, .val (.long (z1 + (1 : Int64))), .second, .val (.int (n32 nb0)), .val (.int (n32 nb1)), .val (.int ft), .val (.long (o_e0 (z0 + (1 : Int64)) (z1 + (1 : Int64)))), .second, .val (.long (0 : Int64)), .second, .val (.long (0 : Int64)), .second, .val (.int (2 : Int32)), .val (.int (1 : Int32)), .val (.int (n32 (nb1 - 1))), .val (.long (o_v (z1 + (1 : Int64)) (nb1 - 1))), .second]) rfl (n := 319) rfl ?_
        refine o_iload X81 hx (hb hby at_319) (v := (2 : Int32)) rfl (n := 321) rfl ?_
        refine o_iload X81 hx (hb hby at_321) (v := (n32 (nb1 - 1))) rfl (n := 323) rfl ?_
        refine o_iadd X81 hx (hb hby at_323) (v := (n32 (2 + (nb1 - 1)))) (o_nadd 2 _) (n := 324) rfl ?_
        refine o_bipush X81 hx (hb hby at_324) (v := (64 : Int32)) rfl (n := 326) rfl ?_
        by_cases hc326 : (64 : Int32) < (n32 (2 + (nb1 - 1)))
        · refine o_icmpY X81 hx (hb hby at_326) (XT.ii_gt_t hc326) (by decide) (n := 349) (by decide) ?_
          refine o_iload X81 hx (hb hby at_349) (v := (1 : Int32)) rfl (n := 351) rfl ?_
          refine o_iconst X81 hx (hb hby at_351) (v := (1 : Int32)) rfl (n := 352) rfl ?_
          refine o_icmpN X81 hx (hb hby at_352) (XT.ii_ne_f (by decide)) (n := 355) rfl ?_
          refine o_lload X81 hx (hb hby at_355) (v := (0 : Int64)) rfl (n := 357) rfl ?_
          refine o_lload X81 hx (hb hby at_357) (v := (o_v (z1 + (1 : Int64)) (nb1 - 1))) rfl (n := 359) rfl ?_
          refine o_lor X81 hx (hb hby at_359) (v := ((0 : Int64) ||| (o_v (z1 + (1 : Int64)) (nb1 - 1)))) rfl (n := 360) rfl ?_
          refine o_lstore X81 hx (hb hby at_360) (Ls' := #[.val (.long u0), .second, .val (.long u1), .second, .val (.long v0), .second, .val (.long v1), .second, .val (.int sel), .val (.long z0), .second, .val (.long z1), .second, .val (.long m0), .second, .val (.long m1), .second, .val (.ref b1), .val (.ref b27), .val (.int (o_pr D z0 z1)), .val (.long (z0 + (1 : Int64))), .second, .val (.long (z1 + (1 : Int64))), .second, .val (.int (n32 nb0)), .val (.int (n32 nb1)), .val (.int ft), .val (.long (o_e0 (z0 + (1 : Int64)) (z1 + (1 : Int64)))), .second, .val (.long ((0 : Int64) ||| (o_v (z1 + (1 : Int64)) (nb1 - 1)))), .second, .val (.long (0 : Int64)), .second, .val (.int (2 : Int32)), .val (.int (1 : Int32)), .val (.int (n32 (nb1 - 1))), .val (.long (o_v (z1 + (1 : Int64)) (nb1 - 1))), .second]) rfl (n := 362) rfl ?_
          refine o_iconst X81 hx (hb hby at_362) (v := (2 : Int32)) rfl (n := 363) rfl ?_
          refine o_istore X81 hx (hb hby at_363) (Ls' := #[.val (.long u0), .second, .val (.long u1), .second, .val (.long v0), .second, .val (.long v1), .second, .val (.int sel), .val (.long z0), .second, .val (.long z1), .second, .val (.long m0), .second, .val (.long m1), .second, .val (.ref b1), .val (.ref b27), .val (.int (o_pr D z0 z1)), .val (.long (z0 + (1 : Int64))), .second, .val (.long (z1 + (1 : Int64))), .second, .val (.int (n32 nb0)), .val (.int (n32 nb1)), .val (.int ft), .val (.long (o_e0 (z0 + (1 : Int64)) (z1 + (1 : Int64)))), .second, .val (.long ((0 : Int64) ||| (o_v (z1 + (1 : Int64)) (nb1 - 1)))), .second, .val (.long (0 : Int64)), .second, .val (.int (2 : Int32)), .val (.int (2 : Int32)), .val (.int (n32 (nb1 - 1))), .val (.long (o_v (z1 + (1 : Int64)) (nb1 - 1))), .second]) rfl (n := 365) rfl ?_
          refine o_goto X81 hx (hb hby at_365) (by decide) (n := 378) (by decide) ?_
          obtain ⟨w0, w1, w2, w3⟩ := o_csnx (z0 := z0) (z1 := z1) hP hT l0 l1 hc234 hc298 hc326
          refine o_iload X81 hx (hb hby at_378) (v := ft) rfl (n := 380) rfl ?_
          by_cases hc380 : ft = (0 : Int32)
          · refine o_ifY X81 hx (hb hby at_380) (XT.i0_eq_t hc380) (by decide) (n := 425) (by decide) ?_
            refine o_iconst X81 hx (hb hby at_425) (v := (1 : Int32)) rfl (n := 426) rfl ?_
            refine o_goto X81 hx (hb hby at_426) (by decide) (n := 430) (by decide) ?_
            refine o_istore X81 hx (hb hby at_430) (Ls' := #[.val (.long u0), .second, .val (.long u1), .second, .val (.long v0), .second, .val (.long v1), .second, .val (.int sel), .val (.long z0), .second, .val (.long z1), .second, .val (.long m0), .second, .val (.long m1), .second, .val (.ref b1), .val (.ref b27), .val (.int (o_pr D z0 z1)), .val (.long (z0 + (1 : Int64))), .second, .val (.long (z1 + (1 : Int64))), .second, .val (.int (n32 nb0)), .val (.int (n32 nb1)), .val (.int ft), .val (.long (o_e0 (z0 + (1 : Int64)) (z1 + (1 : Int64)))), .second, .val (.long ((0 : Int64) ||| (o_v (z1 + (1 : Int64)) (nb1 - 1)))), .second, .val (.long (0 : Int64)), .second, .val (.int (2 : Int32)), .val (.int (2 : Int32)), .val (.int (1 : Int32)), .val (.long (o_v (z1 + (1 : Int64)) (nb1 - 1))), .second]) rfl (n := 432) rfl ?_
            refine o_iload X81 hx (hb hby at_432) (v := (2 : Int32)) rfl (n := 434) rfl ?_
            refine o_iconst X81 hx (hb hby at_434) (v := (2 : Int32)) rfl (n := 435) rfl ?_
            refine o_icmpY X81 hx (hb hby at_435) (XT.ii_ge_t (by decide)) (by decide) (n := 449) (by decide) ?_
            refine o_iload X81 hx (hb hby at_449) (v := (2 : Int32)) rfl (n := 451) rfl ?_
            refine o_iconst X81 hx (hb hby at_451) (v := (3 : Int32)) rfl (n := 452) rfl ?_
            refine o_icmpN X81 hx (hb hby at_452) (XT.ii_ge_f (by decide)) (n := 455) rfl ?_
            refine o_aload X81 hx (hb hby at_455) (v := (.ref b27)) rfl rfl (n := 457) rfl ?_
            refine o_iconst X81 hx (hb hby at_457) (v := (2 : Int32)) rfl (n := 458) rfl ?_
            refine o_laload X81 hx hZ e81 pR_ (2) (by decide) (by decide) (v := (.long ((o_pk D o_N4 z0 z1).getD 2 0))) (o_lgd _ _) (hb hby at_458) (n := 459) rfl ?_
            refine o_ldc2_w X81 hx hZ (v := (-1 : Int64)) hown (hw _ (List.mem_of_getElem? (i := 91) rfl)) (hb hby at_459) (n := 462) rfl ?_
            refine o_lcmp X81 hx (hb hby at_462) (n := 463) rfl ?_
            refine o_ifN X81 hx (hb hby at_463) (XT.ll_ne_f w2) (n := 466) rfl ?_
            refine o_aload X81 hx (hb hby at_466) (v := (.ref b27)) rfl rfl (n := 468) rfl ?_
            refine o_iconst X81 hx (hb hby at_468) (v := (3 : Int32)) rfl (n := 469) rfl ?_
            refine o_laload X81 hx hZ e81 pR_ (3) (by decide) (by decide) (v := (.long ((o_pk D o_N4 z0 z1).getD 3 0))) (o_lgd _ _) (hb hby at_469) (n := 470) rfl ?_
            refine o_ldc2_w X81 hx hZ (v := (-1 : Int64)) hown (hw _ (List.mem_of_getElem? (i := 91) rfl)) (hb hby at_470) (n := 473) rfl ?_
            refine o_lcmp X81 hx (hb hby at_473) (n := 474) rfl ?_
            refine o_ifN X81 hx (hb hby at_474) (XT.ll_ne_f w3) (n := 477) rfl ?_
            refine o_iconst X81 hx (hb hby at_477) (v := (1 : Int32)) rfl (n := 478) rfl ?_
            refine o_goto X81 hx (hb hby at_478) (by decide) (n := 482) (by decide) ?_
            refine o_istore X81 hx (hb hby at_482) (Ls' := #[.val (.long u0), .second, .val (.long u1), .second, .val (.long v0), .second, .val (.long v1), .second, .val (.int sel), .val (.long z0), .second, .val (.long z1), .second, .val (.long m0), .second, .val (.long m1), .second, .val (.ref b1), .val (.ref b27), .val (.int (o_pr D z0 z1)), .val (.long (z0 + (1 : Int64))), .second, .val (.long (z1 + (1 : Int64))), .second, .val (.int (n32 nb0)), .val (.int (n32 nb1)), .val (.int ft), .val (.long (o_e0 (z0 + (1 : Int64)) (z1 + (1 : Int64)))), .second, .val (.long ((0 : Int64) ||| (o_v (z1 + (1 : Int64)) (nb1 - 1)))), .second, .val (.long (0 : Int64)), .second, .val (.int (2 : Int32)), .val (.int (2 : Int32)), .val (.int (1 : Int32)), .val (.int (1 : Int32)), .unset]) rfl (n := 484) rfl ?_
            refine o_iload X81 hx (hb hby at_484) (v := (1 : Int32)) rfl (n := 486) rfl ?_
            refine o_ifN X81 hx (hb hby at_486) (XT.i0_eq_f (by decide)) (n := 489) rfl ?_
            refine o_iload X81 hx (hb hby at_489) (v := (1 : Int32)) rfl (n := 491) rfl ?_
            refine o_ifN X81 hx (hb hby at_491) (XT.i0_eq_f (by decide)) (n := 494) rfl ?_
            refine o_iconst X81 hx (hb hby at_494) (v := (1 : Int32)) rfl (n := 495) rfl ?_
            refine o_goto X81 hx (hb hby at_495) (by decide) (n := 499) (by decide) ?_
            exact o_nreturn X81 hx hret hlk (t := .boolean) (by simp) (hb hby at_499) (by decide) (by decide) e81 ⟨rfl, N82⟩
          · refine o_ifN X81 hx (hb hby at_380) (XT.i0_eq_f hc380) (n := 383) rfl ?_
            refine o_aload X81 hx (hb hby at_383) (v := (.ref b27)) rfl rfl (n := 385) rfl ?_
            refine o_iconst X81 hx (hb hby at_385) (v := (0 : Int32)) rfl (n := 386) rfl ?_
            refine o_laload X81 hx hZ e81 pR_ (0) (by decide) (by decide) (v := (.long ((o_pk D o_N4 z0 z1).getD 0 0))) (o_lgd _ _) (hb hby at_386) (n := 387) rfl ?_
            refine o_lload X81 hx (hb hby at_387) (v := (o_e0 (z0 + (1 : Int64)) (z1 + (1 : Int64)))) rfl (n := 389) rfl ?_
            refine o_lcmp X81 hx (hb hby at_389) (n := 390) rfl ?_
            refine o_ifN X81 hx (hb hby at_390) (XT.ll_ne_f w0) (n := 393) rfl ?_
            refine o_iload X81 hx (hb hby at_393) (v := (2 : Int32)) rfl (n := 395) rfl ?_
            refine o_iconst X81 hx (hb hby at_395) (v := (2 : Int32)) rfl (n := 396) rfl ?_
            refine o_icmpN X81 hx (hb hby at_396) (XT.ii_lt_f (by decide)) (n := 399) rfl ?_
            refine o_aload X81 hx (hb hby at_399) (v := (.ref b27)) rfl rfl (n := 401) rfl ?_
            refine o_iconst X81 hx (hb hby at_401) (v := (1 : Int32)) rfl (n := 402) rfl ?_
            refine o_laload X81 hx hZ e81 pR_ (1) (by decide) (by decide) (v := (.long ((o_pk D o_N4 z0 z1).getD 1 0))) (o_lgd _ _) (hb hby at_402) (n := 403) rfl ?_
            refine o_lload X81 hx (hb hby at_403) (v := ((0 : Int64) ||| (o_v (z1 + (1 : Int64)) (nb1 - 1)))) rfl (n := 405) rfl ?_
            refine o_lcmp X81 hx (hb hby at_405) (n := 406) rfl ?_
            refine o_ifN X81 hx (hb hby at_406) (XT.ll_ne_f w1) (n := 409) rfl ?_
            refine o_iload X81 hx (hb hby at_409) (v := (2 : Int32)) rfl (n := 411) rfl ?_
            refine o_iconst X81 hx (hb hby at_411) (v := (3 : Int32)) rfl (n := 412) rfl ?_
            refine o_icmpY X81 hx (hb hby at_412) (XT.ii_lt_t (by decide)) (by decide) (n := 425) (by decide) ?_
            refine o_iconst X81 hx (hb hby at_425) (v := (1 : Int32)) rfl (n := 426) rfl ?_
            refine o_goto X81 hx (hb hby at_426) (by decide) (n := 430) (by decide) ?_
            refine o_istore X81 hx (hb hby at_430) (Ls' := #[.val (.long u0), .second, .val (.long u1), .second, .val (.long v0), .second, .val (.long v1), .second, .val (.int sel), .val (.long z0), .second, .val (.long z1), .second, .val (.long m0), .second, .val (.long m1), .second, .val (.ref b1), .val (.ref b27), .val (.int (o_pr D z0 z1)), .val (.long (z0 + (1 : Int64))), .second, .val (.long (z1 + (1 : Int64))), .second, .val (.int (n32 nb0)), .val (.int (n32 nb1)), .val (.int ft), .val (.long (o_e0 (z0 + (1 : Int64)) (z1 + (1 : Int64)))), .second, .val (.long ((0 : Int64) ||| (o_v (z1 + (1 : Int64)) (nb1 - 1)))), .second, .val (.long (0 : Int64)), .second, .val (.int (2 : Int32)), .val (.int (2 : Int32)), .val (.int (1 : Int32)), .val (.long (o_v (z1 + (1 : Int64)) (nb1 - 1))), .second]) rfl (n := 432) rfl ?_
            refine o_iload X81 hx (hb hby at_432) (v := (2 : Int32)) rfl (n := 434) rfl ?_
            refine o_iconst X81 hx (hb hby at_434) (v := (2 : Int32)) rfl (n := 435) rfl ?_
            refine o_icmpY X81 hx (hb hby at_435) (XT.ii_ge_t (by decide)) (by decide) (n := 449) (by decide) ?_
            refine o_iload X81 hx (hb hby at_449) (v := (2 : Int32)) rfl (n := 451) rfl ?_
            refine o_iconst X81 hx (hb hby at_451) (v := (3 : Int32)) rfl (n := 452) rfl ?_
            refine o_icmpN X81 hx (hb hby at_452) (XT.ii_ge_f (by decide)) (n := 455) rfl ?_
            refine o_aload X81 hx (hb hby at_455) (v := (.ref b27)) rfl rfl (n := 457) rfl ?_
            refine o_iconst X81 hx (hb hby at_457) (v := (2 : Int32)) rfl (n := 458) rfl ?_
            refine o_laload X81 hx hZ e81 pR_ (2) (by decide) (by decide) (v := (.long ((o_pk D o_N4 z0 z1).getD 2 0))) (o_lgd _ _) (hb hby at_458) (n := 459) rfl ?_
            refine o_ldc2_w X81 hx hZ (v := (-1 : Int64)) hown (hw _ (List.mem_of_getElem? (i := 91) rfl)) (hb hby at_459) (n := 462) rfl ?_
            refine o_lcmp X81 hx (hb hby at_462) (n := 463) rfl ?_
            refine o_ifN X81 hx (hb hby at_463) (XT.ll_ne_f w2) (n := 466) rfl ?_
            refine o_aload X81 hx (hb hby at_466) (v := (.ref b27)) rfl rfl (n := 468) rfl ?_
            refine o_iconst X81 hx (hb hby at_468) (v := (3 : Int32)) rfl (n := 469) rfl ?_
            refine o_laload X81 hx hZ e81 pR_ (3) (by decide) (by decide) (v := (.long ((o_pk D o_N4 z0 z1).getD 3 0))) (o_lgd _ _) (hb hby at_469) (n := 470) rfl ?_
            refine o_ldc2_w X81 hx hZ (v := (-1 : Int64)) hown (hw _ (List.mem_of_getElem? (i := 91) rfl)) (hb hby at_470) (n := 473) rfl ?_
            refine o_lcmp X81 hx (hb hby at_473) (n := 474) rfl ?_
            refine o_ifN X81 hx (hb hby at_474) (XT.ll_ne_f w3) (n := 477) rfl ?_
            refine o_iconst X81 hx (hb hby at_477) (v := (1 : Int32)) rfl (n := 478) rfl ?_
            refine o_goto X81 hx (hb hby at_478) (by decide) (n := 482) (by decide) ?_
            refine o_istore X81 hx (hb hby at_482) (Ls' := #[.val (.long u0), .second, .val (.long u1), .second, .val (.long v0), .second, .val (.long v1), .second, .val (.int sel), .val (.long z0), .second, .val (.long z1), .second, .val (.long m0), .second, .val (.long m1), .second, .val (.ref b1), .val (.ref b27), .val (.int (o_pr D z0 z1)), .val (.long (z0 + (1 : Int64))), .second, .val (.long (z1 + (1 : Int64))), .second, .val (.int (n32 nb0)), .val (.int (n32 nb1)), .val (.int ft), .val (.long (o_e0 (z0 + (1 : Int64)) (z1 + (1 : Int64)))), .second, .val (.long ((0 : Int64) ||| (o_v (z1 + (1 : Int64)) (nb1 - 1)))), .second, .val (.long (0 : Int64)), .second, .val (.int (2 : Int32)), .val (.int (2 : Int32)), .val (.int (1 : Int32)), .val (.int (1 : Int32)), .unset]) rfl (n := 484) rfl ?_
            refine o_iload X81 hx (hb hby at_484) (v := (1 : Int32)) rfl (n := 486) rfl ?_
            refine o_ifN X81 hx (hb hby at_486) (XT.i0_eq_f (by decide)) (n := 489) rfl ?_
            refine o_iload X81 hx (hb hby at_489) (v := (1 : Int32)) rfl (n := 491) rfl ?_
            refine o_ifN X81 hx (hb hby at_491) (XT.i0_eq_f (by decide)) (n := 494) rfl ?_
            refine o_iconst X81 hx (hb hby at_494) (v := (1 : Int32)) rfl (n := 495) rfl ?_
            refine o_goto X81 hx (hb hby at_495) (by decide) (n := 499) (by decide) ?_
            exact o_nreturn X81 hx hret hlk (t := .boolean) (by simp) (hb hby at_499) (by decide) (by decide) e81 ⟨rfl, N82⟩
        · refine o_icmpN X81 hx (hb hby at_326) (XT.ii_gt_f hc326) (n := 329) rfl ?_
          refine o_lload X81 hx (hb hby at_329) (v := (o_e0 (z0 + (1 : Int64)) (z1 + (1 : Int64)))) rfl (n := 331) rfl ?_
          refine o_lload X81 hx (hb hby at_331) (v := (o_v (z1 + (1 : Int64)) (nb1 - 1))) rfl (n := 333) rfl ?_
          refine o_iload X81 hx (hb hby at_333) (v := (2 : Int32)) rfl (n := 335) rfl ?_
          refine o_lshl X81 hx (hb hby at_335) (v := (o_shl (o_v (z1 + (1 : Int64)) (nb1 - 1)) (n32 2))) rfl (n := 336) rfl ?_
          refine o_lor X81 hx (hb hby at_336) (v := ((o_e0 (z0 + (1 : Int64)) (z1 + (1 : Int64))) ||| (o_shl (o_v (z1 + (1 : Int64)) (nb1 - 1)) (n32 2)))) rfl (n := 337) rfl ?_
          refine o_lstore X81 hx (hb hby at_337) (Ls' := #[.val (.long u0), .second, .val (.long u1), .second, .val (.long v0), .second, .val (.long v1), .second, .val (.int sel), .val (.long z0), .second, .val (.long z1), .second, .val (.long m0), .second, .val (.long m1), .second, .val (.ref b1), .val (.ref b27), .val (.int (o_pr D z0 z1)), .val (.long (z0 + (1 : Int64))), .second, .val (.long (z1 + (1 : Int64))), .second, .val (.int (n32 nb0)), .val (.int (n32 nb1)), .val (.int ft), .val (.long ((o_e0 (z0 + (1 : Int64)) (z1 + (1 : Int64))) ||| (o_shl (o_v (z1 + (1 : Int64)) (nb1 - 1)) (n32 2)))), .second, .val (.long (0 : Int64)), .second, .val (.long (0 : Int64)), .second, .val (.int (2 : Int32)), .val (.int (1 : Int32)), .val (.int (n32 (nb1 - 1))), .val (.long (o_v (z1 + (1 : Int64)) (nb1 - 1))), .second]) rfl (n := 339) rfl ?_
          refine o_iload X81 hx (hb hby at_339) (v := (2 : Int32)) rfl (n := 341) rfl ?_
          refine o_iload X81 hx (hb hby at_341) (v := (n32 (nb1 - 1))) rfl (n := 343) rfl ?_
          refine o_iadd X81 hx (hb hby at_343) (v := (n32 (2 + (nb1 - 1)))) (o_nadd 2 _) (n := 344) rfl ?_
          refine o_istore X81 hx (hb hby at_344) (Ls' := #[.val (.long u0), .second, .val (.long u1), .second, .val (.long v0), .second, .val (.long v1), .second, .val (.int sel), .val (.long z0), .second, .val (.long z1), .second, .val (.long m0), .second, .val (.long m1), .second, .val (.ref b1), .val (.ref b27), .val (.int (o_pr D z0 z1)), .val (.long (z0 + (1 : Int64))), .second, .val (.long (z1 + (1 : Int64))), .second, .val (.int (n32 nb0)), .val (.int (n32 nb1)), .val (.int ft), .val (.long ((o_e0 (z0 + (1 : Int64)) (z1 + (1 : Int64))) ||| (o_shl (o_v (z1 + (1 : Int64)) (nb1 - 1)) (n32 2)))), .second, .val (.long (0 : Int64)), .second, .val (.long (0 : Int64)), .second, .val (.int (n32 (2 + (nb1 - 1)))), .val (.int (1 : Int32)), .val (.int (n32 (nb1 - 1))), .val (.long (o_v (z1 + (1 : Int64)) (nb1 - 1))), .second]) rfl (n := 346) rfl ?_
          refine o_goto X81 hx (hb hby at_346) (by decide) (n := 378) (by decide) ?_
          obtain ⟨w0, w1, w2, w3⟩ := o_csnf (z0 := z0) (z1 := z1) hP hT l0 l1 hc234 hc298 hc326
          refine o_iload X81 hx (hb hby at_378) (v := ft) rfl (n := 380) rfl ?_
          by_cases hc380 : ft = (0 : Int32)
          · refine o_ifY X81 hx (hb hby at_380) (XT.i0_eq_t hc380) (by decide) (n := 425) (by decide) ?_
            refine o_iconst X81 hx (hb hby at_425) (v := (1 : Int32)) rfl (n := 426) rfl ?_
            refine o_goto X81 hx (hb hby at_426) (by decide) (n := 430) (by decide) ?_
            refine o_istore X81 hx (hb hby at_430) (Ls' := #[.val (.long u0), .second, .val (.long u1), .second, .val (.long v0), .second, .val (.long v1), .second, .val (.int sel), .val (.long z0), .second, .val (.long z1), .second, .val (.long m0), .second, .val (.long m1), .second, .val (.ref b1), .val (.ref b27), .val (.int (o_pr D z0 z1)), .val (.long (z0 + (1 : Int64))), .second, .val (.long (z1 + (1 : Int64))), .second, .val (.int (n32 nb0)), .val (.int (n32 nb1)), .val (.int ft), .val (.long ((o_e0 (z0 + (1 : Int64)) (z1 + (1 : Int64))) ||| (o_shl (o_v (z1 + (1 : Int64)) (nb1 - 1)) (n32 2)))), .second, .val (.long (0 : Int64)), .second, .val (.long (0 : Int64)), .second, .val (.int (n32 (2 + (nb1 - 1)))), .val (.int (1 : Int32)), .val (.int (1 : Int32)), .val (.long (o_v (z1 + (1 : Int64)) (nb1 - 1))), .second]) rfl (n := 432) rfl ?_
            refine o_iload X81 hx (hb hby at_432) (v := (1 : Int32)) rfl (n := 434) rfl ?_
            refine o_iconst X81 hx (hb hby at_434) (v := (2 : Int32)) rfl (n := 435) rfl ?_
            refine o_icmpN X81 hx (hb hby at_435) (XT.ii_ge_f (by decide)) (n := 438) rfl ?_
            refine o_aload X81 hx (hb hby at_438) (v := (.ref b27)) rfl rfl (n := 440) rfl ?_
            refine o_iconst X81 hx (hb hby at_440) (v := (1 : Int32)) rfl (n := 441) rfl ?_
            refine o_laload X81 hx hZ e81 pR_ (1) (by decide) (by decide) (v := (.long ((o_pk D o_N4 z0 z1).getD 1 0))) (o_lgd _ _) (hb hby at_441) (n := 442) rfl ?_
            refine o_ldc2_w X81 hx hZ (v := (-1 : Int64)) hown (hw _ (List.mem_of_getElem? (i := 91) rfl)) (hb hby at_442) (n := 445) rfl ?_
            refine o_lcmp X81 hx (hb hby at_445) (n := 446) rfl ?_
            refine o_ifN X81 hx (hb hby at_446) (XT.ll_ne_f w1) (n := 449) rfl ?_
            refine o_iload X81 hx (hb hby at_449) (v := (1 : Int32)) rfl (n := 451) rfl ?_
            refine o_iconst X81 hx (hb hby at_451) (v := (3 : Int32)) rfl (n := 452) rfl ?_
            refine o_icmpN X81 hx (hb hby at_452) (XT.ii_ge_f (by decide)) (n := 455) rfl ?_
            refine o_aload X81 hx (hb hby at_455) (v := (.ref b27)) rfl rfl (n := 457) rfl ?_
            refine o_iconst X81 hx (hb hby at_457) (v := (2 : Int32)) rfl (n := 458) rfl ?_
            refine o_laload X81 hx hZ e81 pR_ (2) (by decide) (by decide) (v := (.long ((o_pk D o_N4 z0 z1).getD 2 0))) (o_lgd _ _) (hb hby at_458) (n := 459) rfl ?_
            refine o_ldc2_w X81 hx hZ (v := (-1 : Int64)) hown (hw _ (List.mem_of_getElem? (i := 91) rfl)) (hb hby at_459) (n := 462) rfl ?_
            refine o_lcmp X81 hx (hb hby at_462) (n := 463) rfl ?_
            refine o_ifN X81 hx (hb hby at_463) (XT.ll_ne_f w2) (n := 466) rfl ?_
            refine o_aload X81 hx (hb hby at_466) (v := (.ref b27)) rfl rfl (n := 468) rfl ?_
            refine o_iconst X81 hx (hb hby at_468) (v := (3 : Int32)) rfl (n := 469) rfl ?_
            refine o_laload X81 hx hZ e81 pR_ (3) (by decide) (by decide) (v := (.long ((o_pk D o_N4 z0 z1).getD 3 0))) (o_lgd _ _) (hb hby at_469) (n := 470) rfl ?_
            refine o_ldc2_w X81 hx hZ (v := (-1 : Int64)) hown (hw _ (List.mem_of_getElem? (i := 91) rfl)) (hb hby at_470) (n := 473) rfl ?_
            refine o_lcmp X81 hx (hb hby at_473) (n := 474) rfl ?_
            refine o_ifN X81 hx (hb hby at_474) (XT.ll_ne_f w3) (n := 477) rfl ?_
            refine o_iconst X81 hx (hb hby at_477) (v := (1 : Int32)) rfl (n := 478) rfl ?_
            refine o_goto X81 hx (hb hby at_478) (by decide) (n := 482) (by decide) ?_
            refine o_istore X81 hx (hb hby at_482) (Ls' := #[.val (.long u0), .second, .val (.long u1), .second, .val (.long v0), .second, .val (.long v1), .second, .val (.int sel), .val (.long z0), .second, .val (.long z1), .second, .val (.long m0), .second, .val (.long m1), .second, .val (.ref b1), .val (.ref b27), .val (.int (o_pr D z0 z1)), .val (.long (z0 + (1 : Int64))), .second, .val (.long (z1 + (1 : Int64))), .second, .val (.int (n32 nb0)), .val (.int (n32 nb1)), .val (.int ft), .val (.long ((o_e0 (z0 + (1 : Int64)) (z1 + (1 : Int64))) ||| (o_shl (o_v (z1 + (1 : Int64)) (nb1 - 1)) (n32 2)))), .second, .val (.long (0 : Int64)), .second, .val (.long (0 : Int64)), .second, .val (.int (n32 (2 + (nb1 - 1)))), .val (.int (1 : Int32)), .val (.int (1 : Int32)), .val (.int (1 : Int32)), .unset]) rfl (n := 484) rfl ?_
            refine o_iload X81 hx (hb hby at_484) (v := (1 : Int32)) rfl (n := 486) rfl ?_
            refine o_ifN X81 hx (hb hby at_486) (XT.i0_eq_f (by decide)) (n := 489) rfl ?_
            refine o_iload X81 hx (hb hby at_489) (v := (1 : Int32)) rfl (n := 491) rfl ?_
            refine o_ifN X81 hx (hb hby at_491) (XT.i0_eq_f (by decide)) (n := 494) rfl ?_
            refine o_iconst X81 hx (hb hby at_494) (v := (1 : Int32)) rfl (n := 495) rfl ?_
            refine o_goto X81 hx (hb hby at_495) (by decide) (n := 499) (by decide) ?_
            exact o_nreturn X81 hx hret hlk (t := .boolean) (by simp) (hb hby at_499) (by decide) (by decide) e81 ⟨rfl, N82⟩
          · refine o_ifN X81 hx (hb hby at_380) (XT.i0_eq_f hc380) (n := 383) rfl ?_
            refine o_aload X81 hx (hb hby at_383) (v := (.ref b27)) rfl rfl (n := 385) rfl ?_
            refine o_iconst X81 hx (hb hby at_385) (v := (0 : Int32)) rfl (n := 386) rfl ?_
            refine o_laload X81 hx hZ e81 pR_ (0) (by decide) (by decide) (v := (.long ((o_pk D o_N4 z0 z1).getD 0 0))) (o_lgd _ _) (hb hby at_386) (n := 387) rfl ?_
            refine o_lload X81 hx (hb hby at_387) (v := ((o_e0 (z0 + (1 : Int64)) (z1 + (1 : Int64))) ||| (o_shl (o_v (z1 + (1 : Int64)) (nb1 - 1)) (n32 2)))) rfl (n := 389) rfl ?_
            refine o_lcmp X81 hx (hb hby at_389) (n := 390) rfl ?_
            refine o_ifN X81 hx (hb hby at_390) (XT.ll_ne_f w0) (n := 393) rfl ?_
            refine o_iload X81 hx (hb hby at_393) (v := (1 : Int32)) rfl (n := 395) rfl ?_
            refine o_iconst X81 hx (hb hby at_395) (v := (2 : Int32)) rfl (n := 396) rfl ?_
            refine o_icmpY X81 hx (hb hby at_396) (XT.ii_lt_t (by decide)) (by decide) (n := 409) (by decide) ?_
            refine o_iload X81 hx (hb hby at_409) (v := (1 : Int32)) rfl (n := 411) rfl ?_
            refine o_iconst X81 hx (hb hby at_411) (v := (3 : Int32)) rfl (n := 412) rfl ?_
            refine o_icmpY X81 hx (hb hby at_412) (XT.ii_lt_t (by decide)) (by decide) (n := 425) (by decide) ?_
            refine o_iconst X81 hx (hb hby at_425) (v := (1 : Int32)) rfl (n := 426) rfl ?_
            refine o_goto X81 hx (hb hby at_426) (by decide) (n := 430) (by decide) ?_
            refine o_istore X81 hx (hb hby at_430) (Ls' := #[.val (.long u0), .second, .val (.long u1), .second, .val (.long v0), .second, .val (.long v1), .second, .val (.int sel), .val (.long z0), .second, .val (.long z1), .second, .val (.long m0), .second, .val (.long m1), .second, .val (.ref b1), .val (.ref b27), .val (.int (o_pr D z0 z1)), .val (.long (z0 + (1 : Int64))), .second, .val (.long (z1 + (1 : Int64))), .second, .val (.int (n32 nb0)), .val (.int (n32 nb1)), .val (.int ft), .val (.long ((o_e0 (z0 + (1 : Int64)) (z1 + (1 : Int64))) ||| (o_shl (o_v (z1 + (1 : Int64)) (nb1 - 1)) (n32 2)))), .second, .val (.long (0 : Int64)), .second, .val (.long (0 : Int64)), .second, .val (.int (n32 (2 + (nb1 - 1)))), .val (.int (1 : Int32)), .val (.int (1 : Int32)), .val (.long (o_v (z1 + (1 : Int64)) (nb1 - 1))), .second]) rfl (n := 432) rfl ?_
            refine o_iload X81 hx (hb hby at_432) (v := (1 : Int32)) rfl (n := 434) rfl ?_
            refine o_iconst X81 hx (hb hby at_434) (v := (2 : Int32)) rfl (n := 435) rfl ?_
            refine o_icmpN X81 hx (hb hby at_435) (XT.ii_ge_f (by decide)) (n := 438) rfl ?_
            refine o_aload X81 hx (hb hby at_438) (v := (.ref b27)) rfl rfl (n := 440) rfl ?_
            refine o_iconst X81 hx (hb hby at_440) (v := (1 : Int32)) rfl (n := 441) rfl ?_
            refine o_laload X81 hx hZ e81 pR_ (1) (by decide) (by decide) (v := (.long ((o_pk D o_N4 z0 z1).getD 1 0))) (o_lgd _ _) (hb hby at_441) (n := 442) rfl ?_
            refine o_ldc2_w X81 hx hZ (v := (-1 : Int64)) hown (hw _ (List.mem_of_getElem? (i := 91) rfl)) (hb hby at_442) (n := 445) rfl ?_
            refine o_lcmp X81 hx (hb hby at_445) (n := 446) rfl ?_
            refine o_ifN X81 hx (hb hby at_446) (XT.ll_ne_f w1) (n := 449) rfl ?_
            refine o_iload X81 hx (hb hby at_449) (v := (1 : Int32)) rfl (n := 451) rfl ?_
            refine o_iconst X81 hx (hb hby at_451) (v := (3 : Int32)) rfl (n := 452) rfl ?_
            refine o_icmpN X81 hx (hb hby at_452) (XT.ii_ge_f (by decide)) (n := 455) rfl ?_
            refine o_aload X81 hx (hb hby at_455) (v := (.ref b27)) rfl rfl (n := 457) rfl ?_
            refine o_iconst X81 hx (hb hby at_457) (v := (2 : Int32)) rfl (n := 458) rfl ?_
            refine o_laload X81 hx hZ e81 pR_ (2) (by decide) (by decide) (v := (.long ((o_pk D o_N4 z0 z1).getD 2 0))) (o_lgd _ _) (hb hby at_458) (n := 459) rfl ?_
            refine o_ldc2_w X81 hx hZ (v := (-1 : Int64)) hown (hw _ (List.mem_of_getElem? (i := 91) rfl)) (hb hby at_459) (n := 462) rfl ?_
            refine o_lcmp X81 hx (hb hby at_462) (n := 463) rfl ?_
            refine o_ifN X81 hx (hb hby at_463) (XT.ll_ne_f w2) (n := 466) rfl ?_
            refine o_aload X81 hx (hb hby at_466) (v := (.ref b27)) rfl rfl (n := 468) rfl ?_
            refine o_iconst X81 hx (hb hby at_468) (v := (3 : Int32)) rfl (n := 469) rfl ?_
            refine o_laload X81 hx hZ e81 pR_ (3) (by decide) (by decide) (v := (.long ((o_pk D o_N4 z0 z1).getD 3 0))) (o_lgd _ _) (hb hby at_469) (n := 470) rfl ?_
            refine o_ldc2_w X81 hx hZ (v := (-1 : Int64)) hown (hw _ (List.mem_of_getElem? (i := 91) rfl)) (hb hby at_470) (n := 473) rfl ?_
            refine o_lcmp X81 hx (hb hby at_473) (n := 474) rfl ?_
            refine o_ifN X81 hx (hb hby at_474) (XT.ll_ne_f w3) (n := 477) rfl ?_
            refine o_iconst X81 hx (hb hby at_477) (v := (1 : Int32)) rfl (n := 478) rfl ?_
            refine o_goto X81 hx (hb hby at_478) (by decide) (n := 482) (by decide) ?_
            refine o_istore X81 hx (hb hby at_482) (Ls' := #[.val (.long u0), .second, .val (.long u1), .second, .val (.long v0), .second, .val (.long v1), .second, .val (.int sel), .val (.long z0), .second, .val (.long z1), .second, .val (.long m0), .second, .val (.long m1), .second, .val (.ref b1), .val (.ref b27), .val (.int (o_pr D z0 z1)), .val (.long (z0 + (1 : Int64))), .second, .val (.long (z1 + (1 : Int64))), .second, .val (.int (n32 nb0)), .val (.int (n32 nb1)), .val (.int ft), .val (.long ((o_e0 (z0 + (1 : Int64)) (z1 + (1 : Int64))) ||| (o_shl (o_v (z1 + (1 : Int64)) (nb1 - 1)) (n32 2)))), .second, .val (.long (0 : Int64)), .second, .val (.long (0 : Int64)), .second, .val (.int (n32 (2 + (nb1 - 1)))), .val (.int (1 : Int32)), .val (.int (1 : Int32)), .val (.int (1 : Int32)), .unset]) rfl (n := 484) rfl ?_
            refine o_iload X81 hx (hb hby at_484) (v := (1 : Int32)) rfl (n := 486) rfl ?_
            refine o_ifN X81 hx (hb hby at_486) (XT.i0_eq_f (by decide)) (n := 489) rfl ?_
            refine o_iload X81 hx (hb hby at_489) (v := (1 : Int32)) rfl (n := 491) rfl ?_
            refine o_ifN X81 hx (hb hby at_491) (XT.i0_eq_f (by decide)) (n := 494) rfl ?_
            refine o_iconst X81 hx (hb hby at_494) (v := (1 : Int32)) rfl (n := 495) rfl ?_
            refine o_goto X81 hx (hb hby at_495) (by decide) (n := 499) (by decide) ?_
            exact o_nreturn X81 hx hret hlk (t := .boolean) (by simp) (hb hby at_499) (by decide) (by decide) e81 ⟨rfl, N82⟩
      · refine o_icmpY X_ hx (hb hby at_298) (XT.ii_le_t hc298) (by decide) (n := 378) (by decide) ?_
        obtain ⟨w0, w1, w2, w3⟩ := o_csnn (z0 := z0) (z1 := z1) hP hT l0 l1 hc234 hc298
        refine o_iload X_ hx (hb hby at_378) (v := ft) rfl (n := 380) rfl ?_
        by_cases hc380 : ft = (0 : Int32)
        · refine o_ifY X_ hx (hb hby at_380) (XT.i0_eq_t hc380) (by decide) (n := 425) (by decide) ?_
          refine o_iconst X_ hx (hb hby at_425) (v := (1 : Int32)) rfl (n := 426) rfl ?_
          refine o_goto X_ hx (hb hby at_426) (by decide) (n := 430) (by decide) ?_
          refine o_istore X_ hx (hb hby at_430) (Ls' := #[.val (.long u0), .second, .val (.long u1), .second, .val (.long v0), .second, .val (.long v1), .second, .val (.int sel), .val (.long z0), .second, .val (.long z1), .second, .val (.long m0), .second, .val (.long m1), .second, .val (.ref b1), .val (.ref b27), .val (.int (o_pr D z0 z1)), .val (.long (z0 + (1 : Int64))), .second, .val (.long (z1 + (1 : Int64))), .second, .val (.int (n32 nb0)), .val (.int (n32 nb1)), .val (.int ft), .val (.long (o_e0 (z0 + (1 : Int64)) (z1 + (1 : Int64)))), .second, .val (.long (0 : Int64)), .second, .val (.long (0 : Int64)), .second, .val (.int (2 : Int32)), .val (.int (1 : Int32)), .val (.int (1 : Int32)), .unset, .unset]) rfl (n := 432) rfl ?_
          refine o_iload X_ hx (hb hby at_432) (v := (1 : Int32)) rfl (n := 434) rfl ?_
          refine o_iconst X_ hx (hb hby at_434) (v := (2 : Int32)) rfl (n := 435) rfl ?_
          refine o_icmpN X_ hx (hb hby at_435) (XT.ii_ge_f (by decide)) (n := 438) rfl ?_
          refine o_aload X_ hx (hb hby at_438) (v := (.ref b27)) rfl rfl (n := 440) rfl ?_
          refine o_iconst X_ hx (hb hby at_440) (v := (1 : Int32)) rfl (n := 441) rfl ?_
          refine o_laload X_ hx hZ e_ pR_ (1) (by decide) (by decide) (v := (.long ((o_pk D o_N4 z0 z1).getD 1 0))) (o_lgd _ _) (hb hby at_441) (n := 442) rfl ?_
          refine o_ldc2_w X_ hx hZ (v := (-1 : Int64)) hown (hw _ (List.mem_of_getElem? (i := 91) rfl)) (hb hby at_442) (n := 445) rfl ?_
          refine o_lcmp X_ hx (hb hby at_445) (n := 446) rfl ?_
          refine o_ifN X_ hx (hb hby at_446) (XT.ll_ne_f w1) (n := 449) rfl ?_
          refine o_iload X_ hx (hb hby at_449) (v := (1 : Int32)) rfl (n := 451) rfl ?_
          refine o_iconst X_ hx (hb hby at_451) (v := (3 : Int32)) rfl (n := 452) rfl ?_
          refine o_icmpN X_ hx (hb hby at_452) (XT.ii_ge_f (by decide)) (n := 455) rfl ?_
          refine o_aload X_ hx (hb hby at_455) (v := (.ref b27)) rfl rfl (n := 457) rfl ?_
          refine o_iconst X_ hx (hb hby at_457) (v := (2 : Int32)) rfl (n := 458) rfl ?_
          refine o_laload X_ hx hZ e_ pR_ (2) (by decide) (by decide) (v := (.long ((o_pk D o_N4 z0 z1).getD 2 0))) (o_lgd _ _) (hb hby at_458) (n := 459) rfl ?_
          refine o_ldc2_w X_ hx hZ (v := (-1 : Int64)) hown (hw _ (List.mem_of_getElem? (i := 91) rfl)) (hb hby at_459) (n := 462) rfl ?_
          refine o_lcmp X_ hx (hb hby at_462) (n := 463) rfl ?_
          refine o_ifN X_ hx (hb hby at_463) (XT.ll_ne_f w2) (n := 466) rfl ?_
          refine o_aload X_ hx (hb hby at_466) (v := (.ref b27)) rfl rfl (n := 468) rfl ?_
          refine o_iconst X_ hx (hb hby at_468) (v := (3 : Int32)) rfl (n := 469) rfl ?_
          refine o_laload X_ hx hZ e_ pR_ (3) (by decide) (by decide) (v := (.long ((o_pk D o_N4 z0 z1).getD 3 0))) (o_lgd _ _) (hb hby at_469) (n := 470) rfl ?_
          refine o_ldc2_w X_ hx hZ (v := (-1 : Int64)) hown (hw _ (List.mem_of_getElem? (i := 91) rfl)) (hb hby at_470) (n := 473) rfl ?_
          refine o_lcmp X_ hx (hb hby at_473) (n := 474) rfl ?_
          refine o_ifN X_ hx (hb hby at_474) (XT.ll_ne_f w3) (n := 477) rfl ?_
          refine o_iconst X_ hx (hb hby at_477) (v := (1 : Int32)) rfl (n := 478) rfl ?_
          refine o_goto X_ hx (hb hby at_478) (by decide) (n := 482) (by decide) ?_
          refine o_istore X_ hx (hb hby at_482) (Ls' := #[.val (.long u0), .second, .val (.long u1), .second, .val (.long v0), .second, .val (.long v1), .second, .val (.int sel), .val (.long z0), .second, .val (.long z1), .second, .val (.long m0), .second, .val (.long m1), .second, .val (.ref b1), .val (.ref b27), .val (.int (o_pr D z0 z1)), .val (.long (z0 + (1 : Int64))), .second, .val (.long (z1 + (1 : Int64))), .second, .val (.int (n32 nb0)), .val (.int (n32 nb1)), .val (.int ft), .val (.long (o_e0 (z0 + (1 : Int64)) (z1 + (1 : Int64)))), .second, .val (.long (0 : Int64)), .second, .val (.long (0 : Int64)), .second, .val (.int (2 : Int32)), .val (.int (1 : Int32)), .val (.int (1 : Int32)), .val (.int (1 : Int32)), .unset]) rfl (n := 484) rfl ?_
          refine o_iload X_ hx (hb hby at_484) (v := (1 : Int32)) rfl (n := 486) rfl ?_
          refine o_ifN X_ hx (hb hby at_486) (XT.i0_eq_f (by decide)) (n := 489) rfl ?_
          refine o_iload X_ hx (hb hby at_489) (v := (1 : Int32)) rfl (n := 491) rfl ?_
          refine o_ifN X_ hx (hb hby at_491) (XT.i0_eq_f (by decide)) (n := 494) rfl ?_
          refine o_iconst X_ hx (hb hby at_494) (v := (1 : Int32)) rfl (n := 495) rfl ?_
          refine o_goto X_ hx (hb hby at_495) (by decide) (n := 499) (by decide) ?_
          exact o_nreturn X_ hx hret hlk (t := .boolean) (by simp) (hb hby at_499) (by decide) (by decide) e_ ⟨rfl, N_⟩
        · refine o_ifN X_ hx (hb hby at_380) (XT.i0_eq_f hc380) (n := 383) rfl ?_
          refine o_aload X_ hx (hb hby at_383) (v := (.ref b27)) rfl rfl (n := 385) rfl ?_
          refine o_iconst X_ hx (hb hby at_385) (v := (0 : Int32)) rfl (n := 386) rfl ?_
          refine o_laload X_ hx hZ e_ pR_ (0) (by decide) (by decide) (v := (.long ((o_pk D o_N4 z0 z1).getD 0 0))) (o_lgd _ _) (hb hby at_386) (n := 387) rfl ?_
          refine o_lload X_ hx (hb hby at_387) (v := (o_e0 (z0 + (1 : Int64)) (z1 + (1 : Int64)))) rfl (n := 389) rfl ?_
          refine o_lcmp X_ hx (hb hby at_389) (n := 390) rfl ?_
          refine o_ifN X_ hx (hb hby at_390) (XT.ll_ne_f w0) (n := 393) rfl ?_
          refine o_iload X_ hx (hb hby at_393) (v := (1 : Int32)) rfl (n := 395) rfl ?_
          refine o_iconst X_ hx (hb hby at_395) (v := (2 : Int32)) rfl (n := 396) rfl ?_
          refine o_icmpY X_ hx (hb hby at_396) (XT.ii_lt_t (by decide)) (by decide) (n := 409) (by decide) ?_
          refine o_iload X_ hx (hb hby at_409) (v := (1 : Int32)) rfl (n := 411) rfl ?_
          refine o_iconst X_ hx (hb hby at_411) (v := (3 : Int32)) rfl (n := 412) rfl ?_
          refine o_icmpY X_ hx (hb hby at_412) (XT.ii_lt_t (by decide)) (by decide) (n := 425) (by decide) ?_
          refine o_iconst X_ hx (hb hby at_425) (v := (1 : Int32)) rfl (n := 426) rfl ?_
          refine o_goto X_ hx (hb hby at_426) (by decide) (n := 430) (by decide) ?_
          refine o_istore X_ hx (hb hby at_430) (Ls' := #[.val (.long u0), .second, .val (.long u1), .second, .val (.long v0), .second, .val (.long v1), .second, .val (.int sel), .val (.long z0), .second, .val (.long z1), .second, .val (.long m0), .second, .val (.long m1), .second, .val (.ref b1), .val (.ref b27), .val (.int (o_pr D z0 z1)), .val (.long (z0 + (1 : Int64))), .second, .val (.long (z1 + (1 : Int64))), .second, .val (.int (n32 nb0)), .val (.int (n32 nb1)), .val (.int ft), .val (.long (o_e0 (z0 + (1 : Int64)) (z1 + (1 : Int64)))), .second, .val (.long (0 : Int64)), .second, .val (.long (0 : Int64)), .second, .val (.int (2 : Int32)), .val (.int (1 : Int32)), .val (.int (1 : Int32)), .unset, .unset]) rfl (n := 432) rfl ?_
          refine o_iload X_ hx (hb hby at_432) (v := (1 : Int32)) rfl (n := 434) rfl ?_
          refine o_iconst X_ hx (hb hby at_434) (v := (2 : Int32)) rfl (n := 435) rfl ?_
          refine o_icmpN X_ hx (hb hby at_435) (XT.ii_ge_f (by decide)) (n := 438) rfl ?_
          refine o_aload X_ hx (hb hby at_438) (v := (.ref b27)) rfl rfl (n := 440) rfl ?_
          refine o_iconst X_ hx (hb hby at_440) (v := (1 : Int32)) rfl (n := 441) rfl ?_
          refine o_laload X_ hx hZ e_ pR_ (1) (by decide) (by decide) (v := (.long ((o_pk D o_N4 z0 z1).getD 1 0))) (o_lgd _ _) (hb hby at_441) (n := 442) rfl ?_
          refine o_ldc2_w X_ hx hZ (v := (-1 : Int64)) hown (hw _ (List.mem_of_getElem? (i := 91) rfl)) (hb hby at_442) (n := 445) rfl ?_
          refine o_lcmp X_ hx (hb hby at_445) (n := 446) rfl ?_
          refine o_ifN X_ hx (hb hby at_446) (XT.ll_ne_f w1) (n := 449) rfl ?_
          refine o_iload X_ hx (hb hby at_449) (v := (1 : Int32)) rfl (n := 451) rfl ?_
          refine o_iconst X_ hx (hb hby at_451) (v := (3 : Int32)) rfl (n := 452) rfl ?_
          refine o_icmpN X_ hx (hb hby at_452) (XT.ii_ge_f (by decide)) (n := 455) rfl ?_
          refine o_aload X_ hx (hb hby at_455) (v := (.ref b27)) rfl rfl (n := 457) rfl ?_
          refine o_iconst X_ hx (hb hby at_457) (v := (2 : Int32)) rfl (n := 458) rfl ?_
          refine o_laload X_ hx hZ e_ pR_ (2) (by decide) (by decide) (v := (.long ((o_pk D o_N4 z0 z1).getD 2 0))) (o_lgd _ _) (hb hby at_458) (n := 459) rfl ?_
          refine o_ldc2_w X_ hx hZ (v := (-1 : Int64)) hown (hw _ (List.mem_of_getElem? (i := 91) rfl)) (hb hby at_459) (n := 462) rfl ?_
          refine o_lcmp X_ hx (hb hby at_462) (n := 463) rfl ?_
          refine o_ifN X_ hx (hb hby at_463) (XT.ll_ne_f w2) (n := 466) rfl ?_
          refine o_aload X_ hx (hb hby at_466) (v := (.ref b27)) rfl rfl (n := 468) rfl ?_
          refine o_iconst X_ hx (hb hby at_468) (v := (3 : Int32)) rfl (n := 469) rfl ?_
          refine o_laload X_ hx hZ e_ pR_ (3) (by decide) (by decide) (v := (.long ((o_pk D o_N4 z0 z1).getD 3 0))) (o_lgd _ _) (hb hby at_469) (n := 470) rfl ?_
          refine o_ldc2_w X_ hx hZ (v := (-1 : Int64)) hown (hw _ (List.mem_of_getElem? (i := 91) rfl)) (hb hby at_470) (n := 473) rfl ?_
          refine o_lcmp X_ hx (hb hby at_473) (n := 474) rfl ?_
          refine o_ifN X_ hx (hb hby at_474) (XT.ll_ne_f w3) (n := 477) rfl ?_
          refine o_iconst X_ hx (hb hby at_477) (v := (1 : Int32)) rfl (n := 478) rfl ?_
          refine o_goto X_ hx (hb hby at_478) (by decide) (n := 482) (by decide) ?_
          refine o_istore X_ hx (hb hby at_482) (Ls' := #[.val (.long u0), .second, .val (.long u1), .second, .val (.long v0), .second, .val (.long v1), .second, .val (.int sel), .val (.long z0), .second, .val (.long z1), .second, .val (.long m0), .second, .val (.long m1), .second, .val (.ref b1), .val (.ref b27), .val (.int (o_pr D z0 z1)), .val (.long (z0 + (1 : Int64))), .second, .val (.long (z1 + (1 : Int64))), .second, .val (.int (n32 nb0)), .val (.int (n32 nb1)), .val (.int ft), .val (.long (o_e0 (z0 + (1 : Int64)) (z1 + (1 : Int64)))), .second, .val (.long (0 : Int64)), .second, .val (.long (0 : Int64)), .second, .val (.int (2 : Int32)), .val (.int (1 : Int32)), .val (.int (1 : Int32)), .val (.int (1 : Int32)), .unset]) rfl (n := 484) rfl ?_
          refine o_iload X_ hx (hb hby at_484) (v := (1 : Int32)) rfl (n := 486) rfl ?_
          refine o_ifN X_ hx (hb hby at_486) (XT.i0_eq_f (by decide)) (n := 489) rfl ?_
          refine o_iload X_ hx (hb hby at_489) (v := (1 : Int32)) rfl (n := 491) rfl ?_
          refine o_ifN X_ hx (hb hby at_491) (XT.i0_eq_f (by decide)) (n := 494) rfl ?_
          refine o_iconst X_ hx (hb hby at_494) (v := (1 : Int32)) rfl (n := 495) rfl ?_
          refine o_goto X_ hx (hb hby at_495) (by decide) (n := 499) (by decide) ?_
          exact o_nreturn X_ hx hret hlk (t := .boolean) (by simp) (hb hby at_499) (by decide) (by decide) e_ ⟨rfl, N_⟩
  refine o_lload X73 hx (hb hby at_156) (v := (z0 + (1 : Int64))) rfl (n := 158) rfl ?_
  refine o_iload X73 hx (hb hby at_158) (v := (n32 nb0)) rfl (n := 160) rfl ?_
  refine o_callS X73 hx hZ hown (hw _ (List.mem_of_getElem? (i := 106) rfl)) (hw _ (List.mem_of_getElem? (i := 107) rfl)) (hw _ (List.mem_of_getElem? (i := 99) rfl)) (hw _ (List.mem_of_getElem? (i := 108) rfl)) (by decide) e73 (argsL := [(.int (n32 nb0))]) (rest := [(.long (z0 + (1 : Int64)))]) ((o_onL lo0 l0) ▸ c_ones l Z a0 hw (n32 nb0) T65.heap) 2 (by decide) (by decide) (by decide) (by decide) (by rw [hml]; rfl) (lenOf o_pd13 rfl) rfl (Nat.le_of_eq rfl) (hb hby at_160) (n := 163) rfl ?_
  intro v83 T83 L83 X83 q83
  obtain ⟨rfl, e83, rfl⟩ := q83
  have N84 := Fr.app N74 (Fr.nil n0)
  show Goes p e below s _ _ _ (T83.setTop (mkF m 163 #[.val (.long u0), .second, .val (.long u1), .second, .val (.long v0), .second, .val (.long v1), .second, .val (.int sel), .val (.long z0), .second, .val (.long z1), .second, .val (.long m0), .second, .val (.long m1), .second, .val (.ref b1), .val (.ref b27), .val (.int (o_pr D z0 z1)), .val (.long (z0 + (1 : Int64))), .second, .val (.long (z1 + (1 : Int64))), .second, .val (.int (n32 nb0)), .val (.int (n32 nb1)), .unset, .unset, .unset, .unset, .unset, .unset, .unset, .unset, .unset, .unset, .unset, .unset] [(.long (o_lim nb0)), (.long (z0 + (1 : Int64)))]))
  refine o_ldc2_w X83 hx hZ (v := (-1 : Int64)) hown (hw _ (List.mem_of_getElem? (i := 91) rfl)) (hb hby at_163) (n := 166) rfl ?_
  refine o_lxor X83 hx (hb hby at_166) (v := ((o_lim nb0) ^^^ (-1 : Int64))) rfl (n := 167) rfl ?_
  refine o_land X83 hx (hb hby at_167) (v := ((z0 + (1 : Int64)) &&& ((o_lim nb0) ^^^ (-1 : Int64)))) rfl (n := 168) rfl ?_
  refine o_lconst X83 hx (hb hby at_168) (v := (0 : Int64)) rfl (n := 169) rfl ?_
  refine o_lcmp X83 hx (hb hby at_169) (n := 170) rfl ?_
  by_cases hc170 : ((z0 + (1 : Int64)) &&& ((o_lim nb0) ^^^ (-1 : Int64))) = (0 : Int64)
  · refine o_ifN X83 hx (hb hby at_170) (XT.ll_ne_f hc170) (n := 173) rfl ?_
    refine o_lload X83 hx (hb hby at_173) (v := (z1 + (1 : Int64))) rfl (n := 175) rfl ?_
    refine o_iload X83 hx (hb hby at_175) (v := (n32 nb1)) rfl (n := 177) rfl ?_
    refine o_callS X83 hx hZ hown (hw _ (List.mem_of_getElem? (i := 106) rfl)) (hw _ (List.mem_of_getElem? (i := 107) rfl)) (hw _ (List.mem_of_getElem? (i := 99) rfl)) (hw _ (List.mem_of_getElem? (i := 108) rfl)) (by decide) e83 (argsL := [(.int (n32 nb1))]) (rest := [(.long (z1 + (1 : Int64)))]) ((o_onL lo1 l1) ▸ c_ones l Z a0 hw (n32 nb1) T65.heap) 2 (by decide) (by decide) (by decide) (by decide) (by rw [hml]; rfl) (lenOf o_pd13 rfl) rfl (Nat.le_of_eq rfl) (hb hby at_177) (n := 180) rfl ?_
    intro v85 T85 L85 X85 q85
    obtain ⟨rfl, e85, rfl⟩ := q85
    have N86 := Fr.app N84 (Fr.nil n0)
    show Goes p e below s _ _ _ (T85.setTop (mkF m 180 #[.val (.long u0), .second, .val (.long u1), .second, .val (.long v0), .second, .val (.long v1), .second, .val (.int sel), .val (.long z0), .second, .val (.long z1), .second, .val (.long m0), .second, .val (.long m1), .second, .val (.ref b1), .val (.ref b27), .val (.int (o_pr D z0 z1)), .val (.long (z0 + (1 : Int64))), .second, .val (.long (z1 + (1 : Int64))), .second, .val (.int (n32 nb0)), .val (.int (n32 nb1)), .unset, .unset, .unset, .unset, .unset, .unset, .unset, .unset, .unset, .unset, .unset, .unset] [(.long (o_lim nb1)), (.long (z1 + (1 : Int64)))]))
    refine o_ldc2_w X85 hx hZ (v := (-1 : Int64)) hown (hw _ (List.mem_of_getElem? (i := 91) rfl)) (hb hby at_180) (n := 183) rfl ?_
    refine o_lxor X85 hx (hb hby at_183) (v := ((o_lim nb1) ^^^ (-1 : Int64))) rfl (n := 184) rfl ?_
    refine o_land X85 hx (hb hby at_184) (v := ((z1 + (1 : Int64)) &&& ((o_lim nb1) ^^^ (-1 : Int64)))) rfl (n := 185) rfl ?_
    refine o_lconst X85 hx (hb hby at_185) (v := (0 : Int64)) rfl (n := 186) rfl ?_
    refine o_lcmp X85 hx (hb hby at_186) (n := 187) rfl ?_
    by_cases hc187 : ((z1 + (1 : Int64)) &&& ((o_lim nb1) ^^^ (-1 : Int64))) = (0 : Int64)
    · refine o_ifN X85 hx (hb hby at_187) (XT.ll_ne_f hc187) (n := 190) rfl ?_
      refine o_iconst X85 hx (hb hby at_190) (v := (1 : Int32)) rfl (n := 191) rfl ?_
      refine o_goto X85 hx (hb hby at_191) (by decide) (n := 195) (by decide) ?_
      refine o_istore X85 hx (hb hby at_195) (Ls' := #[.val (.long u0), .second, .val (.long u1), .second, .val (.long v0), .second, .val (.long v1), .second, .val (.int sel), .val (.long z0), .second, .val (.long z1), .second, .val (.long m0), .second, .val (.long m1), .second, .val (.ref b1), .val (.ref b27), .val (.int (o_pr D z0 z1)), .val (.long (z0 + (1 : Int64))), .second, .val (.long (z1 + (1 : Int64))), .second, .val (.int (n32 nb0)), .val (.int (n32 nb1)), .val (.int (1 : Int32)), .unset, .unset, .unset, .unset, .unset, .unset, .unset, .unset, .unset, .unset, .unset]) rfl (n := 197) rfl ?_
      refine o_iload X85 hx (hb hby at_197) (v := (o_pr D z0 z1)) rfl (n := 199) rfl ?_
      refine o_iload X85 hx (hb hby at_199) (v := (1 : Int32)) rfl (n := 201) rfl ?_
      refine o_icmpY X85 hx (hb hby at_201) (XT.ii_eq_t (o_prY eb0 eb1 hc170 hc187)) (by decide) (n := 206) (by decide) ?_
      exact k206 _ _ _ _ (o_mono X85 (by decide) (by decide)) e85 N86 zz65 o65
    · refine o_ifY X85 hx (hb hby at_187) (XT.ll_ne_t hc187) (by decide) (n := 194) (by decide) ?_
      refine o_iconst X85 hx (hb hby at_194) (v := (0 : Int32)) rfl (n := 195) rfl ?_
      refine o_istore X85 hx (hb hby at_195) (Ls' := #[.val (.long u0), .second, .val (.long u1), .second, .val (.long v0), .second, .val (.long v1), .second, .val (.int sel), .val (.long z0), .second, .val (.long z1), .second, .val (.long m0), .second, .val (.long m1), .second, .val (.ref b1), .val (.ref b27), .val (.int (o_pr D z0 z1)), .val (.long (z0 + (1 : Int64))), .second, .val (.long (z1 + (1 : Int64))), .second, .val (.int (n32 nb0)), .val (.int (n32 nb1)), .val (.int (0 : Int32)), .unset, .unset, .unset, .unset, .unset, .unset, .unset, .unset, .unset, .unset, .unset]) rfl (n := 197) rfl ?_
      refine o_iload X85 hx (hb hby at_197) (v := (o_pr D z0 z1)) rfl (n := 199) rfl ?_
      refine o_iload X85 hx (hb hby at_199) (v := (0 : Int32)) rfl (n := 201) rfl ?_
      refine o_icmpY X85 hx (hb hby at_201) (XT.ii_eq_t (o_prN1 eb1 hc187)) (by decide) (n := 206) (by decide) ?_
      exact k206 _ _ _ _ (o_mono X85 (by decide) (by decide)) e85 N86 zz65 o65
  · refine o_ifY X83 hx (hb hby at_170) (XT.ll_ne_t hc170) (by decide) (n := 194) (by decide) ?_
    refine o_iconst X83 hx (hb hby at_194) (v := (0 : Int32)) rfl (n := 195) rfl ?_
    refine o_istore X83 hx (hb hby at_195) (Ls' := #[.val (.long u0), .second, .val (.long u1), .second, .val (.long v0), .second, .val (.long v1), .second, .val (.int sel), .val (.long z0), .second, .val (.long z1), .second, .val (.long m0), .second, .val (.long m1), .second, .val (.ref b1), .val (.ref b27), .val (.int (o_pr D z0 z1)), .val (.long (z0 + (1 : Int64))), .second, .val (.long (z1 + (1 : Int64))), .second, .val (.int (n32 nb0)), .val (.int (n32 nb1)), .val (.int (0 : Int32)), .unset, .unset, .unset, .unset, .unset, .unset, .unset, .unset, .unset, .unset, .unset]) rfl (n := 197) rfl ?_
    refine o_iload X83 hx (hb hby at_197) (v := (o_pr D z0 z1)) rfl (n := 199) rfl ?_
    refine o_iload X83 hx (hb hby at_199) (v := (0 : Int32)) rfl (n := 201) rfl ?_
    refine o_icmpY X83 hx (hb hby at_201) (XT.ii_eq_t (o_prN0 eb0 hc170)) (by decide) (n := 206) (by decide) ?_
    exact k206 _ _ _ _ (o_mono X83 (by decide) (by decide)) e83 N84 zz65 o65
set_option maxRecDepth 65536 in
set_option maxHeartbeats 40000000 in
theorem comes_1 {Post : Tables → Env → Array Value → State → Outcome → State → Prop} (hpost : ∀ tb e args s v u, (limb_1_1.after args s (.returned v) u = true ∧ limb_1_2.after args s (.returned v) u = true ∧ True) → FrameEnd s (.returned v) u (Jvm.fieldLocs frame_1_writes args s ++ Jvm.arrayLocs frame_1_arrays args s ++ Jvm.staticLocs frame_1_statics s) 48 192 → Post tb e args s (.returned v) u) :
    ArmFor flags0 classFile x code maxLocals ret World_1 tables_1 room_1 Calls_1 rest_1 Pre_1 Post := by
  intro l hfl _ _ p e ha hc hk s m args below hf hA hF happ hP
  obtain ⟨hcalls, hrest, hpre⟩ := hP
  obtain ⟨-, -, -, hnamed, -, -, -, hat⟩ := (Spec.applies_iff hf).mp happ
  obtain ⟨hg, hn⟩ := and_e (Cond.before_iff.mp (show (Jvm.Cond.and given_1 narrow_1).before args s = true from hpre))
  obtain ⟨gv1, gv2⟩ := and_e hg
  obtain ⟨gv3, gv4⟩ := and_e gv2
  obtain ⟨gv5, gv6⟩ := and_e gv4
  obtain ⟨gv7, gv8⟩ := and_e gv6
  obtain ⟨gv9, gv10⟩ := and_e gv8
  obtain ⟨w0, w1, w2, w3, w4, rfl⟩ : ∃ w0 w1 w2 w3 w4 : Value, args = #[w0, w1, w2, w3, w4] := by
    have hs : args.size = 5 := by simpa [Cond.value, given_1] using gv1
    obtain ⟨L⟩ := args
    match L, hs with
    | [w0, w1, w2, w3, w4], _ => exact ⟨w0, w1, w2, w3, w4, rfl⟩
  have hw := fun d (hd : d ∈ tables_1) => atoms_spec (ws := Jvm.Cond.code x code maxLocals ret :: tables_1) hat d (List.mem_cons_of_mem _ hd)
  have hfit : Fit s := fun {y c} hc i hi => by
    obtain ⟨ha, rfl⟩ := Array.getElem?_eq_some_iff.mp hc
    have q := List.all_eq_true.mp ((Array.all_eq_true_iff_forall_mem.mp hF) _ (Array.getElem_mem ha)) i (List.mem_range.mpr hi)
    simpa [Array.getElem?_eq_getElem hi] using q
  obtain ⟨i0, ei0⟩ := isL_v gv3
  obtain rfl : w0 = (.long i0) := Option.some.inj ei0
  obtain ⟨i1, ei1⟩ := isL_v gv5
  obtain rfl : w1 = (.long i1) := Option.some.inj ei1
  obtain ⟨i2, ei2⟩ := isL_v gv7
  obtain rfl : w2 = (.long i2) := Option.some.inj ei2
  obtain ⟨i3, ei3⟩ := isL_v gv9
  obtain rfl : w3 = (.long i3) := Option.some.inj ei3
  obtain ⟨i4, ei4⟩ := is_v gv10
  obtain rfl : w4 = (.int i4) := Option.some.inj ei4
  obtain ⟨n, o, h1, h2, h3, _, L, rfl, ⟨rfl, N⟩, hq⟩ := o_law l s _ hw i0 i1 i2 i3 i4 s.heap s.heap.size (Nat.le_refl _) p e ha hc hk s m _ below hf ((Spec.applies_iff_loose hf).mp happ).1 ⟨rfl, State.Warmed39.refl s, rfl⟩ trivial
  refine ⟨n, _, h1, h2, h3, hpost _ _ _ _ _ _ ⟨Cond.after_iff.mpr rfl, Cond.after_iff.mpr (eq_i res_at (Term.int_eval (1)) rfl), trivial⟩ ⟨hq.1, hq.2.1, (hq.2.2.sift fun y hy => Or.inr (N y hy)).mono (by decide) (by decide)⟩⟩
theorem main_1_1 : Claimed_1_1 := comes_1 fun _ _ _ _ _ _ h hF => ⟨h.1, hF⟩
theorem main_1_2 : Claimed_1_2 := comes_1 fun _ _ _ _ _ _ h hF => ⟨h.2.1, hF⟩
end Jvm.Pilot.@@N@@
namespace Jvm.Pilot.@@N@@
open Jvm Jvm.ClassFile Sem Op Lib Jvm.Free Jvm.Stand Jvm.Pilot.@@N@@.Jvm.D
/-! MADE BY PROGRAM (witnessworld.py) out of the Statement's table words and the real class files: 20 classes; the members and pool entries that the words name. The judged class is class 1, her method 4. -/
namespace start1
open Jvm.ClassFile
def u (s : String) : CpInfo := .utf8 (stringToUtf16 s)
/-- a pool by its gaps: so many unusable entries, then the entry; so many at the end -/
def gap : Nat → List CpInfo → List CpInfo
  | 0, r => r
  | n + 1, r => .unusable :: gap n r
def poolList (es : List (Nat × CpInfo)) (last : Nat) : List CpInfo := es.foldr (fun e r => gap e.1 (e.2 :: r)) (gap last [])
def pool (es : List (Nat × CpInfo)) (last : Nat) : Array CpInfo := ⟨poolList es last⟩
def fileOf (pool : Array CpInfo) (this : Nat) (attrs : Array Attribute := #[]) (ms : Array MethodInfo := #[]) (fl : Nat := 33) (sup : Nat := 0) (ifs : Array Nat := #[]) (fds : Array FieldInfo := #[]) : ClassFile where
  minorVersion := 0
  majorVersion := 65
  constantPool := pool
  accessFlags := fl
  thisClass := this
  superClass := sup
  interfaces := ifs
  fields := fds
  methods := ms
  attributes := attrs
def plain (name : String) (sup : Option ClassId) : Class where
  name := name
  kind := .ordinary
  loader := none
  accessFlags := 33
  super := sup
  interfaces := #[]
  cf := none
  fields := #[]
  methods := #[]
  instanceTypes := #[]
  staticTypes := #[]
  resolved := #[]
  callSites := []
  init := .initialized
  statics := none
  mirror := none

def pool0 : Array CpInfo := pool [(5, u "<init>"), (0, u "()V"), (1, .class_ 10), (1, u "java/lang/Object")] 113

def k0c0 : Code := { maxStack := 0, maxLocals := 1, code := object_method_1_code, exceptionTable := #[], attributes := #[] }
def k0m0 : Method := { name := "<init>", desc := "()V", sig := { parameters := [], returnType := none }, accessFlags := 1, code := some k0c0 }
/-- java/lang/Object -/
def k0 : Class := { plain "java/lang/Object" none with
  accessFlags := 33
  interfaces := #[]
  cf := some (fileOf pool0 8 #[] #[{ accessFlags := 1, nameIndex := 5, descriptorIndex := 6, attributes := #[] }] 33 0 #[] #[])
  fields := #[]
  methods := #[k0m0]
  instanceTypes := #[]
  staticTypes := #[]
  resolved := Array.replicate 124 none
  statics := none }

def pool1 : Array CpInfo := pool [(2, .class_ 4), (1, u "java/lang/Object"), (0, u "<init>"), (0, u "()V"), (0, .long 18446744073709551614), (1, .methodref 10 11), (0, .class_ 12), (0, .nameAndType 13 14), (0, u "com/example/marke/marke/analysis/MarkingLayoutPackPinLaw"), (0, u "bitLen"), (0, u "(J)I"), (0, .methodref 16 17), (0, .class_ 18), (0, .nameAndType 19 20), (0, u "java/lang/Math"), (0, u "max"), (0, u "(II)I"), (0, .long 18446744073709551615), (1, .class_ 24), (0, u "com/example/marke/marke/analysis/MarkingLayout"), (0, .methodref 23 26), (0, .nameAndType 5 27), (0, u "(I)V"), (0, .methodref 23 29), (0, .nameAndType 30 31), (0, u "widen"), (0, u "([J)V"), (0, .methodref 23 33), (0, .nameAndType 34 35), (0, u "pack"), (0, u "([J[J)Z"), (0, .methodref 10 37), (0, .nameAndType 38 14), (0, u "width"), (0, .methodref 10 40), (0, .nameAndType 41 42), (0, u "ones"), (0, u "(I)J"), (3, u "law"), (0, u "(JJJJI)Z")] 4

def k1m0 : Method := { name := "<init>", desc := "()V", sig := { parameters := [], returnType := none }, accessFlags := 2, code := none }
def k1c1 : Code := { maxStack := 4, maxLocals := 3, code := method_2_code, exceptionTable := #[], attributes := #[] }
def k1m1 : Method := { name := "bitLen", desc := "(J)I", sig := { parameters := [.long], returnType := some .int }, accessFlags := 10, code := some k1c1 }
def k1c2 : Code := { maxStack := 4, maxLocals := 2, code := method_3_code, exceptionTable := #[], attributes := #[] }
def k1m2 : Method := { name := "width", desc := "(J)I", sig := { parameters := [.long], returnType := some .int }, accessFlags := 10, code := some k1c2 }
def k1c3 : Code := { maxStack := 4, maxLocals := 1, code := method_4_code, exceptionTable := #[], attributes := #[] }
def k1m3 : Method := { name := "ones", desc := "(I)J", sig := { parameters := [.int], returnType := some .long }, accessFlags := 10, code := some k1c3 }
def k1c4 : Code := { maxStack := 6, maxLocals := 38, code := code, exceptionTable := #[], attributes := #[] }
def k1m4 : Method := { name := "law", desc := "(JJJJI)Z", sig := { parameters := [.long, .long, .long, .long, .int], returnType := some .boolean }, accessFlags := 9, code := some k1c4 }
/-- com/example/marke/marke/analysis/MarkingLayoutPackPinLaw -/
def k1 : Class := { plain "com/example/marke/marke/analysis/MarkingLayoutPackPinLaw" (some 0) with
  accessFlags := 49
  interfaces := #[]
  cf := some (fileOf pool1 10 #[] #[{ accessFlags := 2, nameIndex := 5, descriptorIndex := 6, attributes := #[] }, { accessFlags := 10, nameIndex := 13, descriptorIndex := 14, attributes := #[] }, { accessFlags := 10, nameIndex := 38, descriptorIndex := 14, attributes := #[] }, { accessFlags := 10, nameIndex := 41, descriptorIndex := 42, attributes := #[] }, { accessFlags := 9, nameIndex := 46, descriptorIndex := 47, attributes := #[] }] 49 2 #[] #[])
  fields := #[]
  methods := #[k1m0, k1m1, k1m2, k1m3, k1m4]
  instanceTypes := #[]
  staticTypes := #[]
  resolved := Array.replicate 52 none
  statics := none }

def pool2 : Array CpInfo := pool [(1, .methodref 2 3), (0, .class_ 4), (0, .nameAndType 5 6), (0, u "com/example/marke/marke/analysis/MarkingLayout"), (0, u "oneBitEach"), (0, u "(I)[I"), (0, .methodref 2 8), (0, .nameAndType 9 10), (0, u "<init>"), (0, u "([I)V"), (0, .methodref 12 13), (0, .class_ 14), (0, .nameAndType 9 15), (0, u "java/lang/Object"), (0, u "()V"), (0, .fieldref 2 17), (0, .nameAndType 18 19), (0, u "limits"), (0, u "[J"), (0, .fieldref 2 21), (0, .nameAndType 22 23), (0, u "places"), (0, u "[I"), (0, .fieldref 2 25), (0, .nameAndType 26 23), (0, u "lows"), (0, .fieldref 2 28), (0, .nameAndType 29 19), (0, u "masks"), (0, .fieldref 2 31), (0, .nameAndType 32 23), (0, u "words"), (0, .fieldref 2 34), (0, .nameAndType 35 23), (0, u "shifts"), (0, .fieldref 2 37), (0, .nameAndType 38 23), (0, u "nexts"), (0, .fieldref 2 40), (0, .nameAndType 41 23), (0, u "tops"), (0, .long 18446744073709551615), (1, .fieldref 2 45), (0, .nameAndType 46 47), (0, u "length"), (0, u "I"), (0, .methodref 49 50), (0, .class_ 51), (0, .nameAndType 52 53), (0, u "java/lang/Math"), (0, u "max"), (0, u "(II)I"), (0, .methodref 2 55), (0, .nameAndType 56 57), (0, u "addPiece"), (0, u "(IIII)I"), (0, .methodref 59 60), (0, .class_ 61), (0, .nameAndType 62 63), (0, u "java/util/Arrays"), (0, u "fill"), (0, u "([II)V"), (0, .methodref 59 65), (0, .nameAndType 66 67), (0, u "copyOf"), (0, u "([II)[I"), (0, .fieldref 2 69), (0, .nameAndType 70 47), (0, u "pieces"), (0, .methodref 59 72), (0, .nameAndType 66 73), (0, u "([JI)[J"), (0, .methodref 75 76), (0, .class_ 77), (0, .nameAndType 78 79), (0, u "java/lang/Long"), (0, u "compareUnsigned"), (0, u "(JJ)I"), (0, .methodref 75 81), (0, .nameAndType 82 83), (0, u "bitCount"), (0, u "(J)I"), (0, .methodref 75 85), (0, .nameAndType 86 83), (0, u "numberOfLeadingZeros"), (0, .methodref 49 88), (0, .nameAndType 89 53), (0, u "min"), (0, u "WORD"), (2, u "(I)V"), (5, u "pack"), (0, u "([J[J)Z"), (4, u "widen"), (0, u "([J)V")] 6

def k2c0 : Code := { maxStack := 2, maxLocals := 2, code := prog_12_method_1_code, exceptionTable := #[], attributes := #[] }
def k2m0 : Method := { name := "<init>", desc := "(I)V", sig := { parameters := [.int], returnType := none }, accessFlags := 0, code := some k2c0 }
def k2c1 : Code := { maxStack := 7, maxLocals := 4, code := prog_12_method_2_code, exceptionTable := #[], attributes := #[] }
def k2m1 : Method := { name := "<init>", desc := "([I)V", sig := { parameters := [(.array .int)], returnType := none }, accessFlags := 2, code := some k2c1 }
def k2c2 : Code := { maxStack := 2, maxLocals := 2, code := prog_12_method_3_code, exceptionTable := #[], attributes := #[] }
def k2m2 : Method := { name := "oneBitEach", desc := "(I)[I", sig := { parameters := [.int], returnType := some (.array .int) }, accessFlags := 10, code := some k2c2 }
def k2c3 : Code := { maxStack := 6, maxLocals := 6, code := prog_12_method_4_code, exceptionTable := #[], attributes := #[] }
def k2m3 : Method := { name := "addPiece", desc := "(IIII)I", sig := { parameters := [.int, .int, .int, .int], returnType := some .int }, accessFlags := 2, code := some k2c3 }
def k2c4 : Code := { maxStack := 8, maxLocals := 8, code := prog_12_method_6_code, exceptionTable := #[], attributes := #[] }
def k2m4 : Method := { name := "pack", desc := "([J[J)Z", sig := { parameters := [(.array .long), (.array .long)], returnType := some .boolean }, accessFlags := 0, code := some k2c4 }
def k2c5 : Code := { maxStack := 6, maxLocals := 9, code := prog_12_method_9_code, exceptionTable := #[], attributes := #[] }
def k2m5 : Method := { name := "widen", desc := "([J)V", sig := { parameters := [(.array .long)], returnType := none }, accessFlags := 0, code := some k2c5 }
/-- com/example/marke/marke/analysis/MarkingLayout -/
def k2 : Class := { plain "com/example/marke/marke/analysis/MarkingLayout" (some 0) with
  accessFlags := 32
  interfaces := #[]
  cf := some (fileOf pool2 2 #[] #[{ accessFlags := 0, nameIndex := 9, descriptorIndex := 93, attributes := #[] }, { accessFlags := 2, nameIndex := 9, descriptorIndex := 10, attributes := #[] }, { accessFlags := 10, nameIndex := 5, descriptorIndex := 6, attributes := #[] }, { accessFlags := 2, nameIndex := 56, descriptorIndex := 57, attributes := #[] }, { accessFlags := 0, nameIndex := 99, descriptorIndex := 100, attributes := #[] }, { accessFlags := 0, nameIndex := 105, descriptorIndex := 106, attributes := #[] }] 32 12 #[] #[{ accessFlags := 26, nameIndex := 90, descriptorIndex := 47, attributes := #[] }, { accessFlags := 18, nameIndex := 18, descriptorIndex := 19, attributes := #[] }, { accessFlags := 2, nameIndex := 22, descriptorIndex := 23, attributes := #[] }, { accessFlags := 2, nameIndex := 26, descriptorIndex := 23, attributes := #[] }, { accessFlags := 2, nameIndex := 29, descriptorIndex := 19, attributes := #[] }, { accessFlags := 2, nameIndex := 32, descriptorIndex := 23, attributes := #[] }, { accessFlags := 2, nameIndex := 35, descriptorIndex := 23, attributes := #[] }, { accessFlags := 2, nameIndex := 38, descriptorIndex := 23, attributes := #[] }, { accessFlags := 2, nameIndex := 70, descriptorIndex := 47, attributes := #[] }, { accessFlags := 2, nameIndex := 41, descriptorIndex := 23, attributes := #[] }, { accessFlags := 2, nameIndex := 46, descriptorIndex := 47, attributes := #[] }])
  fields := #[{ name := "WORD", type := .int, accessFlags := 26, slot := 0, constantValue := 0 }, { name := "limits", type := (.array .long), accessFlags := 18, slot := 0, constantValue := 0 }, { name := "places", type := (.array .int), accessFlags := 2, slot := 1, constantValue := 0 }, { name := "lows", type := (.array .int), accessFlags := 2, slot := 2, constantValue := 0 }, { name := "masks", type := (.array .long), accessFlags := 2, slot := 3, constantValue := 0 }, { name := "words", type := (.array .int), accessFlags := 2, slot := 4, constantValue := 0 }, { name := "shifts", type := (.array .int), accessFlags := 2, slot := 5, constantValue := 0 }, { name := "nexts", type := (.array .int), accessFlags := 2, slot := 6, constantValue := 0 }, { name := "pieces", type := .int, accessFlags := 2, slot := 7, constantValue := 0 }, { name := "tops", type := (.array .int), accessFlags := 2, slot := 8, constantValue := 0 }, { name := "length", type := .int, accessFlags := 2, slot := 9, constantValue := 0 }]
  methods := #[k2m0, k2m1, k2m2, k2m3, k2m4, k2m5]
  instanceTypes := #[(.array .long), (.array .int), (.array .int), (.array .long), (.array .int), (.array .int), (.array .int), .int, (.array .int), .int]
  staticTypes := #[.int]
  resolved := Array.replicate 113 none
  statics := none }

def pool3 : Array CpInfo := pool [(2, .class_ 4), (1, u "java/lang/Object"), (0, u "<init>"), (0, u "()V"), (7, .class_ 16), (1, u "java/util/Arrays"), (57, .class_ 76), (1, u "java/util/Arrays$NaturalOrder"), (36, .class_ 115), (1, u "java/util/Arrays$LegacyMergeSort"), (1, u "Z"), (32, .methodref 151 152), (0, .class_ 153), (0, .nameAndType 154 155), (0, u "java/lang/System"), (0, u "arraycopy"), (0, u "(Ljava/lang/Object;ILjava/lang/Object;II)V"), (146, u "copyOf"), (1, .methodref 305 306), (0, .class_ 307), (0, .nameAndType 308 309), (0, u "java/lang/Math"), (0, u "min"), (0, u "(II)I"), (65, .class_ 376), (0, u "java/util/Arrays$ArrayList"), (68, u "$assertionsDisabled"), (269, u "MIN_ARRAY_SORT_GRAN"), (0, u "I"), (2, u "INSERTIONSORT_THRESHOLD"), (120, u "fill"), (4, u "([II)V"), (25, u "([II)[I"), (0, u "([JI)[J"), (102, .class_ 976), (0, u "java/util/Arrays$ArrayItr")] 52

def k3m0 : Method := { name := "<init>", desc := "()V", sig := { parameters := [], returnType := none }, accessFlags := 2, code := none }
def k3c1 : Code := { maxStack := 3, maxLocals := 4, code := jdk_65_method_103_code, exceptionTable := #[], attributes := #[] }
def k3m1 : Method := { name := "fill", desc := "([II)V", sig := { parameters := [(.array .int), .int], returnType := none }, accessFlags := 9, code := some k3c1 }
def k3c2 : Code := { maxStack := 6, maxLocals := 3, code := jdk_65_method_123_code, exceptionTable := #[], attributes := #[] }
def k3m2 : Method := { name := "copyOf", desc := "([II)[I", sig := { parameters := [(.array .int), .int], returnType := some (.array .int) }, accessFlags := 9, code := some k3c2 }
def k3c3 : Code := { maxStack := 6, maxLocals := 3, code := jdk_65_method_124_code, exceptionTable := #[], attributes := #[] }
def k3m3 : Method := { name := "copyOf", desc := "([JI)[J", sig := { parameters := [(.array .long), .int], returnType := some (.array .long) }, accessFlags := 9, code := some k3c3 }
/-- java/util/Arrays -/
def k3 : Class := { plain "java/util/Arrays" (some 0) with
  accessFlags := 49
  interfaces := #[]
  cf := some (fileOf pool3 14 #[.nestMembers #[975, 375, 113, 74]] #[{ accessFlags := 2, nameIndex := 5, descriptorIndex := 6, attributes := #[] }, { accessFlags := 9, nameIndex := 840, descriptorIndex := 845, attributes := #[] }, { accessFlags := 9, nameIndex := 302, descriptorIndex := 871, attributes := #[] }, { accessFlags := 9, nameIndex := 302, descriptorIndex := 872, attributes := #[] }] 49 2 #[] #[{ accessFlags := 26, nameIndex := 715, descriptorIndex := 716, attributes := #[] }, { accessFlags := 26, nameIndex := 719, descriptorIndex := 716, attributes := #[] }, { accessFlags := 4120, nameIndex := 445, descriptorIndex := 117, attributes := #[] }])
  fields := #[{ name := "MIN_ARRAY_SORT_GRAN", type := .int, accessFlags := 26, slot := 0, constantValue := 0 }, { name := "INSERTIONSORT_THRESHOLD", type := .int, accessFlags := 26, slot := 1, constantValue := 0 }, { name := "$assertionsDisabled", type := .boolean, accessFlags := 4120, slot := 2, constantValue := 0 }]
  methods := #[k3m0, k3m1, k3m2, k3m3]
  instanceTypes := #[]
  staticTypes := #[.int, .int, .boolean]
  resolved := Array.replicate 1029 none
  statics := none }

def pool4 : Array CpInfo := pool [(1, .class_ 2), (0, u "java/lang/Math"), (1, .class_ 6), (1, u "java/lang/Object"), (0, u "<init>"), (0, u "()V"), (89, .class_ 100), (1, u "java/lang/Math$RandomNumberGeneratorHolder"), (71, u "negativeZeroFloatBits"), (0, u "J"), (2, u "negativeZeroDoubleBits"), (21, u "max"), (2, u "min"), (43, u "$assertionsDisabled"), (0, u "Z"), (88, u "(II)I"), (2, u "twoToTheDoubleScaleDown"), (0, u "D"), (4, u "twoToTheDoubleScaleUp"), (9, u "E"), (3, u "PI"), (2, u "TAU"), (2, u "DEGREES_TO_RADIANS"), (0, u "RADIANS_TO_DEGREES")] 94

def k4m0 : Method := { name := "<init>", desc := "()V", sig := { parameters := [], returnType := none }, accessFlags := 2, code := none }
def k4c1 : Code := { maxStack := 2, maxLocals := 2, code := jdk_29_method_65_code, exceptionTable := #[], attributes := #[] }
def k4m1 : Method := { name := "max", desc := "(II)I", sig := { parameters := [.int, .int], returnType := some .int }, accessFlags := 9, code := some k4c1 }
def k4c2 : Code := { maxStack := 2, maxLocals := 2, code := jdk_29_method_69_code, exceptionTable := #[], attributes := #[] }
def k4m2 : Method := { name := "min", desc := "(II)I", sig := { parameters := [.int, .int], returnType := some .int }, accessFlags := 9, code := some k4c2 }
/-- java/lang/Math -/
def k4 : Class := { plain "java/lang/Math" (some 0) with
  accessFlags := 49
  interfaces := #[]
  cf := some (fileOf pool4 1 #[.nestMembers #[98]] #[{ accessFlags := 2, nameIndex := 7, descriptorIndex := 8, attributes := #[] }, { accessFlags := 9, nameIndex := 198, descriptorIndex := 335, attributes := #[] }, { accessFlags := 9, nameIndex := 201, descriptorIndex := 335, attributes := #[] }] 49 4 #[] #[{ accessFlags := 25, nameIndex := 354, descriptorIndex := 339, attributes := #[] }, { accessFlags := 25, nameIndex := 358, descriptorIndex := 339, attributes := #[] }, { accessFlags := 25, nameIndex := 361, descriptorIndex := 339, attributes := #[] }, { accessFlags := 26, nameIndex := 364, descriptorIndex := 339, attributes := #[] }, { accessFlags := 26, nameIndex := 365, descriptorIndex := 339, attributes := #[] }, { accessFlags := 26, nameIndex := 172, descriptorIndex := 173, attributes := #[] }, { accessFlags := 26, nameIndex := 176, descriptorIndex := 173, attributes := #[] }, { accessFlags := 8, nameIndex := 344, descriptorIndex := 339, attributes := #[] }, { accessFlags := 8, nameIndex := 338, descriptorIndex := 339, attributes := #[] }, { accessFlags := 4120, nameIndex := 245, descriptorIndex := 246, attributes := #[] }])
  fields := #[{ name := "E", type := .double, accessFlags := 25, slot := 0, constantValue := 0 }, { name := "PI", type := .double, accessFlags := 25, slot := 1, constantValue := 0 }, { name := "TAU", type := .double, accessFlags := 25, slot := 2, constantValue := 0 }, { name := "DEGREES_TO_RADIANS", type := .double, accessFlags := 26, slot := 3, constantValue := 0 }, { name := "RADIANS_TO_DEGREES", type := .double, accessFlags := 26, slot := 4, constantValue := 0 }, { name := "negativeZeroFloatBits", type := .long, accessFlags := 26, slot := 5, constantValue := 0 }, { name := "negativeZeroDoubleBits", type := .long, accessFlags := 26, slot := 6, constantValue := 0 }, { name := "twoToTheDoubleScaleUp", type := .double, accessFlags := 8, slot := 7, constantValue := 0 }, { name := "twoToTheDoubleScaleDown", type := .double, accessFlags := 8, slot := 8, constantValue := 0 }, { name := "$assertionsDisabled", type := .boolean, accessFlags := 4120, slot := 9, constantValue := 0 }]
  methods := #[k4m0, k4m1, k4m2]
  instanceTypes := #[]
  staticTypes := #[.double, .double, .double, .double, .double, .long, .long, .double, .double, .boolean]
  resolved := Array.replicate 460 none
  statics := none }

def pool5 : Array CpInfo := pool [(1, .class_ 2), (0, u "java/io/Serializable"), (0, .class_ 4), (0, u "java/lang/Object")] 2

/-- java/io/Serializable -/
def k5 : Class := { plain "java/io/Serializable" (some 0) with
  accessFlags := 1537
  interfaces := #[]
  cf := some (fileOf pool5 1 #[] #[] 1537 3 #[] #[])
  fields := #[]
  methods := #[]
  instanceTypes := #[]
  staticTypes := #[]
  resolved := Array.replicate 7 none
  statics := none }

def pool6 : Array CpInfo := pool [(2, .class_ 4), (1, u "java/lang/Object"), (0, u "<init>"), (0, u "()V"), (1, .class_ 10), (1, u "java/lang/Number"), (2, .class_ 14), (0, u "java/io/Serializable"), (0, u "serialVersionUID"), (0, u "J")] 20

def k6m0 : Method := { name := "<init>", desc := "()V", sig := { parameters := [], returnType := none }, accessFlags := 1, code := none }
/-- java/lang/Number -/
def k6 : Class := { plain "java/lang/Number" (some 0) with
  accessFlags := 1057
  interfaces := #[5]
  cf := some (fileOf pool6 8 #[] #[{ accessFlags := 1, nameIndex := 5, descriptorIndex := 6, attributes := #[] }] 1057 2 #[13] #[{ accessFlags := 26, nameIndex := 15, descriptorIndex := 16, attributes := #[] }])
  fields := #[{ name := "serialVersionUID", type := .long, accessFlags := 26, slot := 0, constantValue := 0 }]
  methods := #[k6m0]
  instanceTypes := #[]
  staticTypes := #[.long]
  resolved := Array.replicate 37 none
  statics := none }

def pool7 : Array CpInfo := pool [(1, .class_ 2), (0, u "java/lang/Comparable"), (0, .class_ 4), (0, u "java/lang/Object")] 7

/-- java/lang/Comparable -/
def k7 : Class := { plain "java/lang/Comparable" (some 0) with
  accessFlags := 1537
  interfaces := #[]
  cf := some (fileOf pool7 1 #[] #[] 1537 3 #[] #[])
  fields := #[]
  methods := #[]
  instanceTypes := #[]
  staticTypes := #[]
  resolved := Array.replicate 12 none
  statics := none }

def pool8 : Array CpInfo := pool [(1, .class_ 2), (0, u "java/lang/constant/Constable"), (0, .class_ 4), (0, u "java/lang/Object")] 6

/-- java/lang/constant/Constable -/
def k8 : Class := { plain "java/lang/constant/Constable" (some 0) with
  accessFlags := 1537
  interfaces := #[]
  cf := some (fileOf pool8 1 #[] #[] 1537 3 #[] #[])
  fields := #[]
  methods := #[]
  instanceTypes := #[]
  staticTypes := #[]
  resolved := Array.replicate 11 none
  statics := none }

def pool9 : Array CpInfo := pool [(1, .class_ 2), (0, u "java/lang/constant/ConstantDesc"), (0, .class_ 4), (0, u "java/lang/Object")] 32

/-- java/lang/constant/ConstantDesc -/
def k9 : Class := { plain "java/lang/constant/ConstantDesc" (some 0) with
  accessFlags := 1537
  interfaces := #[]
  cf := some (fileOf pool9 1 #[] #[] 1537 3 #[] #[])
  fields := #[]
  methods := #[]
  instanceTypes := #[]
  staticTypes := #[]
  resolved := Array.replicate 37 none
  statics := none }

def pool10 : Array CpInfo := pool [(1, .class_ 2), (0, u "java/lang/Long"), (15, .class_ 20), (1, u "java/lang/Integer"), (79, u "numberOfLeadingZeros"), (0, u "(J)I"), (66, .long 9223372036854775808), (66, .class_ 237), (1, u "java/lang/Long$LongCache"), (33, .class_ 272), (0, u "java/lang/Number"), (2, u "value"), (0, u "J"), (25, .methodref 1 303), (0, .nameAndType 304 305), (0, u "compare"), (0, u "(JJ)I"), (2, .methodref 18 309), (0, .nameAndType 100 310), (0, u "(I)I"), (3, .long 6148914691236517205), (1, .long 3689348814741910323), (1, .long 1085102592571150095), (42, u "TYPE"), (0, u "Ljava/lang/Class;"), (0, .class_ 364), (0, u "java/lang/Comparable"), (0, .class_ 366), (0, u "java/lang/constant/Constable"), (0, .class_ 368), (0, u "java/lang/constant/ConstantDesc"), (0, u "MIN_VALUE"), (1, u "MAX_VALUE"), (4, u "SIZE"), (0, u "I"), (1, u "BYTES"), (1, u "serialVersionUID"), (87, u "compareUnsigned"), (6, u "bitCount")] 47

def k10c0 : Code := { maxStack := 4, maxLocals := 4, code := jdk_35_method_42_code, exceptionTable := #[], attributes := #[] }
def k10m0 : Method := { name := "compare", desc := "(JJ)I", sig := { parameters := [.long, .long], returnType := some .int }, accessFlags := 9, code := some k10c0 }
def k10c1 : Code := { maxStack := 6, maxLocals := 4, code := jdk_35_method_43_code, exceptionTable := #[], attributes := #[] }
def k10m1 : Method := { name := "compareUnsigned", desc := "(JJ)I", sig := { parameters := [.long, .long], returnType := some .int }, accessFlags := 9, code := some k10c1 }
def k10c2 : Code := { maxStack := 3, maxLocals := 3, code := jdk_35_method_48_code, exceptionTable := #[], attributes := #[] }
def k10m2 : Method := { name := "numberOfLeadingZeros", desc := "(J)I", sig := { parameters := [.long], returnType := some .int }, accessFlags := 9, code := some k10c2 }
def k10c3 : Code := { maxStack := 6, maxLocals := 2, code := jdk_35_method_50_code, exceptionTable := #[], attributes := #[] }
def k10m3 : Method := { name := "bitCount", desc := "(J)I", sig := { parameters := [.long], returnType := some .int }, accessFlags := 9, code := some k10c3 }
/-- java/lang/Long -/
def k10 : Class := { plain "java/lang/Long" (some 6) with
  accessFlags := 49
  interfaces := #[7, 8, 9]
  cf := some (fileOf pool10 1 #[.nestMembers #[235]] #[{ accessFlags := 9, nameIndex := 304, descriptorIndex := 305, attributes := #[] }, { accessFlags := 9, nameIndex := 469, descriptorIndex := 305, attributes := #[] }, { accessFlags := 9, nameIndex := 100, descriptorIndex := 101, attributes := #[] }, { accessFlags := 9, nameIndex := 476, descriptorIndex := 101, attributes := #[] }] 49 271 #[363, 365, 367] #[{ accessFlags := 25, nameIndex := 369, descriptorIndex := 276, attributes := #[] }, { accessFlags := 25, nameIndex := 371, descriptorIndex := 276, attributes := #[] }, { accessFlags := 25, nameIndex := 361, descriptorIndex := 362, attributes := #[] }, { accessFlags := 18, nameIndex := 275, descriptorIndex := 276, attributes := #[] }, { accessFlags := 25, nameIndex := 376, descriptorIndex := 377, attributes := #[] }, { accessFlags := 25, nameIndex := 379, descriptorIndex := 377, attributes := #[] }, { accessFlags := 26, nameIndex := 381, descriptorIndex := 276, attributes := #[] }])
  fields := #[{ name := "MIN_VALUE", type := .long, accessFlags := 25, slot := 0, constantValue := 0 }, { name := "MAX_VALUE", type := .long, accessFlags := 25, slot := 1, constantValue := 0 }, { name := "TYPE", type := (.object "java/lang/Class"), accessFlags := 25, slot := 2, constantValue := 0 }, { name := "value", type := .long, accessFlags := 18, slot := 0, constantValue := 0 }, { name := "SIZE", type := .int, accessFlags := 25, slot := 3, constantValue := 0 }, { name := "BYTES", type := .int, accessFlags := 25, slot := 4, constantValue := 0 }, { name := "serialVersionUID", type := .long, accessFlags := 26, slot := 5, constantValue := 0 }]
  methods := #[k10m0, k10m1, k10m2, k10m3]
  instanceTypes := #[.long]
  staticTypes := #[.long, .long, (.object "java/lang/Class"), .int, .int, .long]
  resolved := Array.replicate 524 none
  statics := none }

def pool11 : Array CpInfo := pool [(1, .class_ 2), (0, u "java/lang/Integer"), (16, u "digits"), (0, u "[C"), (32, u "numberOfLeadingZeros"), (0, u "(I)I"), (30, u "DigitOnes"), (0, u "[B"), (2, u "DigitTens"), (99, .class_ 190), (0, u "java/lang/Integer$IntegerCache"), (3, u "I"), (8, .class_ 204), (0, u "java/lang/Number"), (2, u "value"), (56, .integer 65536), (37, u "TYPE"), (0, u "Ljava/lang/Class;"), (0, .class_ 305), (0, u "java/lang/Comparable"), (0, .class_ 307), (0, u "java/lang/constant/Constable"), (0, .class_ 309), (0, u "java/lang/constant/ConstantDesc"), (0, u "MIN_VALUE"), (1, u "MAX_VALUE"), (3, u "SIZE"), (1, u "BYTES"), (1, u "serialVersionUID"), (0, u "J")] 131

def k11c0 : Code := { maxStack := 3, maxLocals := 2, code := jdk_33_method_47_code, exceptionTable := #[], attributes := #[] }
def k11m0 : Method := { name := "numberOfLeadingZeros", desc := "(I)I", sig := { parameters := [.int], returnType := some .int }, accessFlags := 9, code := some k11c0 }
/-- java/lang/Integer -/
def k11 : Class := { plain "java/lang/Integer" (some 6) with
  accessFlags := 49
  interfaces := #[7, 8, 9]
  cf := some (fileOf pool11 1 #[.nestMembers #[189]] #[{ accessFlags := 9, nameIndex := 53, descriptorIndex := 54, attributes := #[] }] 49 203 #[304, 306, 308] #[{ accessFlags := 25, nameIndex := 310, descriptorIndex := 194, attributes := #[] }, { accessFlags := 25, nameIndex := 312, descriptorIndex := 194, attributes := #[] }, { accessFlags := 25, nameIndex := 302, descriptorIndex := 303, attributes := #[] }, { accessFlags := 24, nameIndex := 19, descriptorIndex := 20, attributes := #[] }, { accessFlags := 24, nameIndex := 89, descriptorIndex := 86, attributes := #[] }, { accessFlags := 24, nameIndex := 85, descriptorIndex := 86, attributes := #[] }, { accessFlags := 18, nameIndex := 207, descriptorIndex := 194, attributes := #[] }, { accessFlags := 25, nameIndex := 316, descriptorIndex := 194, attributes := #[] }, { accessFlags := 25, nameIndex := 318, descriptorIndex := 194, attributes := #[] }, { accessFlags := 26, nameIndex := 320, descriptorIndex := 321, attributes := #[] }])
  fields := #[{ name := "MIN_VALUE", type := .int, accessFlags := 25, slot := 0, constantValue := 0 }, { name := "MAX_VALUE", type := .int, accessFlags := 25, slot := 1, constantValue := 0 }, { name := "TYPE", type := (.object "java/lang/Class"), accessFlags := 25, slot := 2, constantValue := 0 }, { name := "digits", type := (.array .char), accessFlags := 24, slot := 3, constantValue := 0 }, { name := "DigitTens", type := (.array .byte), accessFlags := 24, slot := 4, constantValue := 0 }, { name := "DigitOnes", type := (.array .byte), accessFlags := 24, slot := 5, constantValue := 0 }, { name := "value", type := .int, accessFlags := 18, slot := 0, constantValue := 0 }, { name := "SIZE", type := .int, accessFlags := 25, slot := 6, constantValue := 0 }, { name := "BYTES", type := .int, accessFlags := 25, slot := 7, constantValue := 0 }, { name := "serialVersionUID", type := .long, accessFlags := 26, slot := 8, constantValue := 0 }]
  methods := #[k11m0]
  instanceTypes := #[.int]
  staticTypes := #[.int, .int, (.object "java/lang/Class"), (.array .char), (.array .byte), (.array .byte), .int, .int, .long]
  resolved := Array.replicate 453 none
  statics := none }

def pool12 : Array CpInfo := pool [(2, .class_ 4), (1, u "java/lang/Object"), (0, u "<init>"), (0, u "()V"), (1, .class_ 10), (1, u "java/lang/System"), (0, u "allowSecurityManager"), (0, u "I"), (16, u "cons"), (0, u "Ljava/io/Console;"), (77, .class_ 110), (1, u "java/lang/System$CallersHolder"), (43, u "initialErrStream"), (0, u "Ljava/io/PrintStream;"), (19, u "security"), (0, u "Ljava/lang/SecurityManager;"), (31, .class_ 209), (0, u "java/lang/System$1"), (7, u "props"), (0, u "Ljava/util/Properties;"), (2, u "lineSeparator"), (0, u "Ljava/lang/String;"), (96, .class_ 321), (1, u "java/lang/System$LoggerFinder"), (5, .class_ 328), (0, u "java/lang/System$Logger"), (67, u "err"), (2, u "out"), (91, u "notSupportedJnuEncoding"), (15, u "in"), (17, u "initialIn"), (0, u "Ljava/io/InputStream;"), (35, u "bootLayer"), (0, u "Ljava/lang/ModuleLayer;"), (99, .class_ 664), (0, u "java/lang/System$2"), (9, u "NEVER"), (2, u "MAYBE"), (49, u "arraycopy"), (0, u "(Ljava/lang/Object;ILjava/lang/Object;II)V"), (72, .class_ 802), (0, u "java/lang/System$Logger$Level")] 31

def k12m0 : Method := { name := "<init>", desc := "()V", sig := { parameters := [], returnType := none }, accessFlags := 2, code := none }
def k12m1 : Method := { name := "arraycopy", desc := "(Ljava/lang/Object;ILjava/lang/Object;II)V", sig := { parameters := [(.object "java/lang/Object"), .int, (.object "java/lang/Object"), .int, .int], returnType := none }, accessFlags := 265, code := none }
/-- java/lang/System -/
def k12 : Class := { plain "java/lang/System" (some 0) with
  accessFlags := 49
  interfaces := #[]
  cf := some (fileOf pool12 8 #[.nestMembers #[319, 327, 801, 108, 663, 208]] #[{ accessFlags := 2, nameIndex := 5, descriptorIndex := 6, attributes := #[] }, { accessFlags := 265, nameIndex := 727, descriptorIndex := 728, attributes := #[] }] 49 2 #[] #[{ accessFlags := 25, nameIndex := 507, descriptorIndex := 526, attributes := #[] }, { accessFlags := 25, nameIndex := 399, descriptorIndex := 155, attributes := #[] }, { accessFlags := 25, nameIndex := 396, descriptorIndex := 155, attributes := #[] }, { accessFlags := 10, nameIndex := 525, descriptorIndex := 526, attributes := #[] }, { accessFlags := 26, nameIndex := 674, descriptorIndex := 12, attributes := #[] }, { accessFlags := 26, nameIndex := 677, descriptorIndex := 12, attributes := #[] }, { accessFlags := 10, nameIndex := 11, descriptorIndex := 12, attributes := #[] }, { accessFlags := 74, nameIndex := 175, descriptorIndex := 176, attributes := #[] }, { accessFlags := 10, nameIndex := 491, descriptorIndex := 222, attributes := #[] }, { accessFlags := 74, nameIndex := 29, descriptorIndex := 30, attributes := #[] }, { accessFlags := 74, nameIndex := 154, descriptorIndex := 155, attributes := #[] }, { accessFlags := 10, nameIndex := 217, descriptorIndex := 218, attributes := #[] }, { accessFlags := 10, nameIndex := 221, descriptorIndex := 222, attributes := #[] }, { accessFlags := 8, nameIndex := 562, descriptorIndex := 563, attributes := #[] }])
  fields := #[{ name := "in", type := (.object "java/io/InputStream"), accessFlags := 25, slot := 0, constantValue := 0 }, { name := "out", type := (.object "java/io/PrintStream"), accessFlags := 25, slot := 1, constantValue := 0 }, { name := "err", type := (.object "java/io/PrintStream"), accessFlags := 25, slot := 2, constantValue := 0 }, { name := "initialIn", type := (.object "java/io/InputStream"), accessFlags := 10, slot := 3, constantValue := 0 }, { name := "NEVER", type := .int, accessFlags := 26, slot := 4, constantValue := 0 }, { name := "MAYBE", type := .int, accessFlags := 26, slot := 5, constantValue := 0 }, { name := "allowSecurityManager", type := .int, accessFlags := 10, slot := 6, constantValue := 0 }, { name := "security", type := (.object "java/lang/SecurityManager"), accessFlags := 74, slot := 7, constantValue := 0 }, { name := "notSupportedJnuEncoding", type := (.object "java/lang/String"), accessFlags := 10, slot := 8, constantValue := 0 }, { name := "cons", type := (.object "java/io/Console"), accessFlags := 74, slot := 9, constantValue := 0 }, { name := "initialErrStream", type := (.object "java/io/PrintStream"), accessFlags := 74, slot := 10, constantValue := 0 }, { name := "props", type := (.object "java/util/Properties"), accessFlags := 10, slot := 11, constantValue := 0 }, { name := "lineSeparator", type := (.object "java/lang/String"), accessFlags := 10, slot := 12, constantValue := 0 }, { name := "bootLayer", type := (.object "java/lang/ModuleLayer"), accessFlags := 8, slot := 13, constantValue := 0 }]
  methods := #[k12m0, k12m1]
  instanceTypes := #[]
  staticTypes := #[(.object "java/io/InputStream"), (.object "java/io/PrintStream"), (.object "java/io/PrintStream"), (.object "java/io/InputStream"), .int, .int, .int, (.object "java/lang/SecurityManager"), (.object "java/lang/String"), (.object "java/io/Console"), (.object "java/io/PrintStream"), (.object "java/util/Properties"), (.object "java/lang/String"), (.object "java/lang/ModuleLayer")]
  resolved := Array.replicate 834 none
  statics := none }

def pool13 : Array CpInfo := pool [(1, u "java/lang/Cloneable"), (0, .class_ 1), (0, u "java/lang/Object"), (0, .class_ 3)] 3

/-- java/lang/Cloneable -/
def k13 : Class := { plain "java/lang/Cloneable" (some 0) with
  accessFlags := 1537
  interfaces := #[]
  cf := some (fileOf pool13 2 #[] #[] 1537 4 #[] #[])
  fields := #[]
  methods := #[]
  instanceTypes := #[]
  staticTypes := #[]
  resolved := Array.replicate 8 none
  statics := none }

/-- the primitive byte -/
def k14 : Class := { plain "byte" none with kind := .primitive 'B', accessFlags := 0x411 }
/-- [B -/
def k15 : Class := { plain "[B" (some 0) with kind := .array 14 .byte, interfaces := #[13, 5], accessFlags := 1041 }

/-- the primitive int -/
def k16 : Class := { plain "int" none with kind := .primitive 'I', accessFlags := 0x411 }
/-- [I -/
def k17 : Class := { plain "[I" (some 0) with kind := .array 16 .int, interfaces := #[13, 5], accessFlags := 1041 }

/-- the primitive long -/
def k18 : Class := { plain "long" none with kind := .primitive 'J', accessFlags := 0x411 }
/-- [J -/
def k19 : Class := { plain "[J" (some 0) with kind := .array 18 .long, interfaces := #[13, 5], accessFlags := 1041 }

def heap : Heap := #[]
def classes : Array Class := #[k0, k1, k2, k3, k4, k5, k6, k7, k8, k9, k10, k11, k12, k13, k14, k15, k16, k17, k18, k19]
def interned : List (Array UInt16 × Addr) := []
def slotsUsed : Nat := 0
def theMethod : MethodId := ⟨1, 4⟩
def args0 : Array Value := #[.long 5, .long 5, .long 5, .long 5, .int 5]
def aboutOver (below : List Frame) : State where
  vm := { classes := classes, interned := interned.toArray }
  heap := heap
  slotsUsed := slotsUsed
  threads := #[{ frames := .invoking theMethod args0 :: below }]
def below0 : List Frame := [.native { method := ⟨0, 0⟩, args := #[] }]
def about1 : State := aboutOver below0
def p0 : Program := .bare "" "" ""
def e0 : Env := launch0.env 0 0 0
theorem w_frames : about1.frames = Frame.invoking theMethod args0 :: below0 := rfl
set_option maxRecDepth 65536 in
theorem w_args : argsFit about1.vm theMethod args0 = true := by decide +kernel
set_option maxRecDepth 65536 in
theorem w_heap : heapFits about1 = true := by decide +kernel
set_option maxRecDepth 65536 in
theorem w_runnable : about1.curStatus? = some .runnable := by decide +kernel
set_option maxRecDepth 65536 in
theorem w_alone : about1.alone = true := by decide +kernel
set_option maxRecDepth 65536 in
theorem w_named : about1.methodNamed? x = some theMethod := by decide +kernel
set_option maxRecDepth 65536 in
theorem w_hears : about1.hears theMethod below0 = true := by decide +kernel
set_option maxRecDepth 65536 in
theorem w_ripe : about1.ripe theMethod args0 below0 = true := by decide +kernel
theorem w_running : about1.status = .running := rfl
set_option maxRecDepth 65536 in
theorem w_room : about1.hasRoom e0.platform room_1 = true :=
  launch0.hasRoom_least _ room_1 (by decide +kernel) (by decide +kernel) (by decide +kernel) (by decide +kernel) (by decide +kernel) (by decide +kernel)
theorem allAtoms_all (ts : List Jvm.Cond) (a : Array Jvm.Value) (st : Jvm.State) : (allAtoms ts).before a st = ts.all (fun c => c.before a st) := by
  induction ts with
  | nil => rfl
  | cons c t ih =>
    show (Jvm.Cond.and c (allAtoms t)).before a st = _
    rw [Jvm.Cond.before_and, ih, List.all_cons]
def words1 : List Jvm.Cond := Jvm.Cond.code x code maxLocals ret :: tables_1
/-- a 'code' word, met by the world's own term for the bytes: nothing is compared byte by byte -/
theorem code_word {y : MethodName} {bytes : ByteArray} {mx : Nat} {rt : Option FieldType} {a : Array Value} {s : State} {m : MethodId} {meth : Method} {c : Code} (h1 : s.methodNamed? y = some m) (h2 : s.vm.method? m = some meth) (h3 : meth.code = some c) (h4 : c.code = bytes)
    (h5 : (c.maxLocals == mx && c.exceptionTable.isEmpty && decide (c.maxStack ≤ mostOperands) && decide (meth.sig.returnType = rt) && !meth.locks && decide (parseMethodDescriptor y.desc = some meth.sig)) = true) : (Jvm.Cond.code y bytes mx rt).before a s = true := by
  simp only [Bool.and_eq_true, beq_iff_eq, Bool.not_eq_true', decide_eq_true_eq] at h5
  obtain ⟨⟨⟨⟨⟨g1, g2⟩, g3⟩, g4⟩, g5⟩, g6⟩ := h5
  simp [Cond.before, Cond.holds, Cond.value, h1, h2, h3, h4, g1, g2, g3, g4, g5, g6]
def isCode : Jvm.Cond → Bool
  | .code _ _ _ _ => true
  | _ => false
theorem all_split {L : List Jvm.Cond} {P : Jvm.Cond → Bool} (h1 : L.all (fun c => isCode c || P c) = true) (h2 : ∀ c ∈ L.filter isCode, P c = true) : L.all P = true := by
  refine List.all_eq_true.mpr fun c hc => ?_
  have h := List.all_eq_true.mp h1 c hc
  rcases Bool.eq_false_or_eq_true (isCode c) with hi | hi
  · exact h2 c (List.mem_filter.mpr ⟨hc, hi⟩)
  · simpa [hi] using h
set_option maxRecDepth 65536 in
theorem w_c0 : (Jvm.Cond.code x code maxLocals ret).before args0 about1 = true := code_word (m := ⟨1, 4⟩) (meth := k1m4) (c := k1c4) (by decide +kernel) rfl rfl rfl (by decide +kernel)
set_option maxRecDepth 65536 in
theorem w_c1 : (Jvm.Cond.code ({ cls := "com/example/marke/marke/analysis/MarkingLayout", name := "<init>", desc := "(I)V" } : Jvm.MethodName) prog_12_method_1_code (2 : Nat) (Option.none : Option Jvm.ClassFile.FieldType)).before args0 about1 = true := code_word (m := ⟨2, 0⟩) (meth := k2m0) (c := k2c0) (by decide +kernel) rfl rfl rfl (by decide +kernel)
set_option maxRecDepth 65536 in
theorem w_c2 : (Jvm.Cond.code ({ cls := "com/example/marke/marke/analysis/MarkingLayout", name := "oneBitEach", desc := "(I)[I" } : Jvm.MethodName) prog_12_method_3_code (2 : Nat) (Option.some (Jvm.ClassFile.FieldType.array Jvm.ClassFile.FieldType.int))).before args0 about1 = true := code_word (m := ⟨2, 2⟩) (meth := k2m2) (c := k2c2) (by decide +kernel) rfl rfl rfl (by decide +kernel)
set_option maxRecDepth 65536 in
theorem w_c3 : (Jvm.Cond.code ({ cls := "java/util/Arrays", name := "fill", desc := "([II)V" } : Jvm.MethodName) jdk_65_method_103_code (4 : Nat) (Option.none : Option Jvm.ClassFile.FieldType)).before args0 about1 = true := code_word (m := ⟨3, 1⟩) (meth := k3m1) (c := k3c1) (by decide +kernel) rfl rfl rfl (by decide +kernel)
set_option maxRecDepth 65536 in
theorem w_c4 : (Jvm.Cond.code ({ cls := "com/example/marke/marke/analysis/MarkingLayout", name := "<init>", desc := "([I)V" } : Jvm.MethodName) prog_12_method_2_code (4 : Nat) (Option.none : Option Jvm.ClassFile.FieldType)).before args0 about1 = true := code_word (m := ⟨2, 1⟩) (meth := k2m1) (c := k2c1) (by decide +kernel) rfl rfl rfl (by decide +kernel)
set_option maxRecDepth 65536 in
theorem w_c5 : (Jvm.Cond.code ({ cls := "java/lang/Object", name := "<init>", desc := "()V" } : Jvm.MethodName) object_method_1_code (1 : Nat) (Option.none : Option Jvm.ClassFile.FieldType)).before args0 about1 = true := code_word (m := ⟨0, 0⟩) (meth := k0m0) (c := k0c0) (by decide +kernel) rfl rfl rfl (by decide +kernel)
set_option maxRecDepth 65536 in
theorem w_c6 : (Jvm.Cond.code ({ cls := "java/lang/Math", name := "max", desc := "(II)I" } : Jvm.MethodName) jdk_29_method_65_code (2 : Nat) (Option.some Jvm.ClassFile.FieldType.int)).before args0 about1 = true := code_word (m := ⟨4, 1⟩) (meth := k4m1) (c := k4c1) (by decide +kernel) rfl rfl rfl (by decide +kernel)
set_option maxRecDepth 65536 in
theorem w_c7 : (Jvm.Cond.code ({ cls := "com/example/marke/marke/analysis/MarkingLayout", name := "addPiece", desc := "(IIII)I" } : Jvm.MethodName) prog_12_method_4_code (6 : Nat) (Option.some Jvm.ClassFile.FieldType.int)).before args0 about1 = true := code_word (m := ⟨2, 3⟩) (meth := k2m3) (c := k2c3) (by decide +kernel) rfl rfl rfl (by decide +kernel)
set_option maxRecDepth 65536 in
theorem w_c8 : (Jvm.Cond.code ({ cls := "com/example/marke/marke/analysis/MarkingLayout", name := "widen", desc := "([J)V" } : Jvm.MethodName) prog_12_method_9_code (9 : Nat) (Option.none : Option Jvm.ClassFile.FieldType)).before args0 about1 = true := code_word (m := ⟨2, 5⟩) (meth := k2m5) (c := k2c5) (by decide +kernel) rfl rfl rfl (by decide +kernel)
set_option maxRecDepth 65536 in
theorem w_c9 : (Jvm.Cond.code ({ cls := "java/lang/Long", name := "compareUnsigned", desc := "(JJ)I" } : Jvm.MethodName) jdk_35_method_43_code (4 : Nat) (Option.some Jvm.ClassFile.FieldType.int)).before args0 about1 = true := code_word (m := ⟨10, 1⟩) (meth := k10m1) (c := k10c1) (by decide +kernel) rfl rfl rfl (by decide +kernel)
set_option maxRecDepth 65536 in
theorem w_c10 : (Jvm.Cond.code ({ cls := "java/lang/Long", name := "compare", desc := "(JJ)I" } : Jvm.MethodName) jdk_35_method_42_code (4 : Nat) (Option.some Jvm.ClassFile.FieldType.int)).before args0 about1 = true := code_word (m := ⟨10, 0⟩) (meth := k10m0) (c := k10c0) (by decide +kernel) rfl rfl rfl (by decide +kernel)
set_option maxRecDepth 65536 in
theorem w_c11 : (Jvm.Cond.code ({ cls := "java/lang/Long", name := "bitCount", desc := "(J)I" } : Jvm.MethodName) jdk_35_method_50_code (2 : Nat) (Option.some Jvm.ClassFile.FieldType.int)).before args0 about1 = true := code_word (m := ⟨10, 3⟩) (meth := k10m3) (c := k10c3) (by decide +kernel) rfl rfl rfl (by decide +kernel)
set_option maxRecDepth 65536 in
theorem w_c12 : (Jvm.Cond.code ({ cls := "java/lang/Long", name := "numberOfLeadingZeros", desc := "(J)I" } : Jvm.MethodName) jdk_35_method_48_code (3 : Nat) (Option.some Jvm.ClassFile.FieldType.int)).before args0 about1 = true := code_word (m := ⟨10, 2⟩) (meth := k10m2) (c := k10c2) (by decide +kernel) rfl rfl rfl (by decide +kernel)
set_option maxRecDepth 65536 in
theorem w_c13 : (Jvm.Cond.code ({ cls := "java/lang/Integer", name := "numberOfLeadingZeros", desc := "(I)I" } : Jvm.MethodName) jdk_33_method_47_code (2 : Nat) (Option.some Jvm.ClassFile.FieldType.int)).before args0 about1 = true := code_word (m := ⟨11, 0⟩) (meth := k11m0) (c := k11c0) (by decide +kernel) rfl rfl rfl (by decide +kernel)
set_option maxRecDepth 65536 in
theorem w_c14 : (Jvm.Cond.code ({ cls := "java/lang/Math", name := "min", desc := "(II)I" } : Jvm.MethodName) jdk_29_method_69_code (2 : Nat) (Option.some Jvm.ClassFile.FieldType.int)).before args0 about1 = true := code_word (m := ⟨4, 2⟩) (meth := k4m2) (c := k4c2) (by decide +kernel) rfl rfl rfl (by decide +kernel)
set_option maxRecDepth 65536 in
theorem w_c15 : (Jvm.Cond.code ({ cls := "java/util/Arrays", name := "copyOf", desc := "([II)[I" } : Jvm.MethodName) jdk_65_method_123_code (3 : Nat) (Option.some (Jvm.ClassFile.FieldType.array Jvm.ClassFile.FieldType.int))).before args0 about1 = true := code_word (m := ⟨3, 2⟩) (meth := k3m2) (c := k3c2) (by decide +kernel) rfl rfl rfl (by decide +kernel)
set_option maxRecDepth 65536 in
theorem w_c16 : (Jvm.Cond.code ({ cls := "java/util/Arrays", name := "copyOf", desc := "([JI)[J" } : Jvm.MethodName) jdk_65_method_124_code (3 : Nat) (Option.some (Jvm.ClassFile.FieldType.array Jvm.ClassFile.FieldType.long))).before args0 about1 = true := code_word (m := ⟨3, 3⟩) (meth := k3m3) (c := k3c3) (by decide +kernel) rfl rfl rfl (by decide +kernel)
set_option maxRecDepth 65536 in
theorem w_c17 : (Jvm.Cond.code ({ cls := "com/example/marke/marke/analysis/MarkingLayout", name := "pack", desc := "([J[J)Z" } : Jvm.MethodName) prog_12_method_6_code (8 : Nat) (Option.some Jvm.ClassFile.FieldType.boolean)).before args0 about1 = true := code_word (m := ⟨2, 4⟩) (meth := k2m4) (c := k2c4) (by decide +kernel) rfl rfl rfl (by decide +kernel)
set_option maxRecDepth 65536 in
theorem w_c18 : (Jvm.Cond.code ({ cls := "com/example/marke/marke/analysis/MarkingLayoutPackPinLaw", name := "width", desc := "(J)I" } : Jvm.MethodName) method_3_code (2 : Nat) (Option.some Jvm.ClassFile.FieldType.int)).before args0 about1 = true := code_word (m := ⟨1, 2⟩) (meth := k1m2) (c := k1c2) (by decide +kernel) rfl rfl rfl (by decide +kernel)
set_option maxRecDepth 65536 in
theorem w_c19 : (Jvm.Cond.code ({ cls := "com/example/marke/marke/analysis/MarkingLayoutPackPinLaw", name := "bitLen", desc := "(J)I" } : Jvm.MethodName) method_2_code (3 : Nat) (Option.some Jvm.ClassFile.FieldType.int)).before args0 about1 = true := code_word (m := ⟨1, 1⟩) (meth := k1m1) (c := k1c1) (by decide +kernel) rfl rfl rfl (by decide +kernel)
set_option maxRecDepth 65536 in
theorem w_c20 : (Jvm.Cond.code ({ cls := "com/example/marke/marke/analysis/MarkingLayoutPackPinLaw", name := "ones", desc := "(I)J" } : Jvm.MethodName) method_4_code (1 : Nat) (Option.some Jvm.ClassFile.FieldType.long)).before args0 about1 = true := code_word (m := ⟨1, 3⟩) (meth := k1m3) (c := k1c3) (by decide +kernel) rfl rfl rfl (by decide +kernel)
def codes1 : List Jvm.Cond := [Jvm.Cond.code x code maxLocals ret, Jvm.Cond.code ({ cls := "com/example/marke/marke/analysis/MarkingLayout", name := "<init>", desc := "(I)V" } : Jvm.MethodName) prog_12_method_1_code (2 : Nat) (Option.none : Option Jvm.ClassFile.FieldType), Jvm.Cond.code ({ cls := "com/example/marke/marke/analysis/MarkingLayout", name := "oneBitEach", desc := "(I)[I" } : Jvm.MethodName) prog_12_method_3_code (2 : Nat) (Option.some (Jvm.ClassFile.FieldType.array Jvm.ClassFile.FieldType.int)), Jvm.Cond.code ({ cls := "java/util/Arrays", name := "fill", desc := "([II)V" } : Jvm.MethodName) jdk_65_method_103_code (4 : Nat) (Option.none : Option Jvm.ClassFile.FieldType), Jvm.Cond.code ({ cls := "com/example/marke/marke/analysis/MarkingLayout", name := "<init>", desc := "([I)V" } : Jvm.MethodName) prog_12_method_2_code (4 : Nat) (Option.none : Option Jvm.ClassFile.FieldType), Jvm.Cond.code ({ cls := "java/lang/Object", name := "<init>", desc := "()V" } : Jvm.MethodName) object_method_1_code (1 : Nat) (Option.none : Option Jvm.ClassFile.FieldType), Jvm.Cond.code ({ cls := "java/lang/Math", name := "max", desc := "(II)I" } : Jvm.MethodName) jdk_29_method_65_code (2 : Nat) (Option.some Jvm.ClassFile.FieldType.int), Jvm.Cond.code ({ cls := "com/example/marke/marke/analysis/MarkingLayout", name := "addPiece", desc := "(IIII)I" } : Jvm.MethodName) prog_12_method_4_code (6 : Nat) (Option.some Jvm.ClassFile.FieldType.int), Jvm.Cond.code ({ cls := "com/example/marke/marke/analysis/MarkingLayout", name := "widen", desc := "([J)V" } : Jvm.MethodName) prog_12_method_9_code (9 : Nat) (Option.none : Option Jvm.ClassFile.FieldType), Jvm.Cond.code ({ cls := "java/lang/Long", name := "compareUnsigned", desc := "(JJ)I" } : Jvm.MethodName) jdk_35_method_43_code (4 : Nat) (Option.some Jvm.ClassFile.FieldType.int), Jvm.Cond.code ({ cls := "java/lang/Long", name := "compare", desc := "(JJ)I" } : Jvm.MethodName) jdk_35_method_42_code (4 : Nat) (Option.some Jvm.ClassFile.FieldType.int), Jvm.Cond.code ({ cls := "java/lang/Long", name := "bitCount", desc := "(J)I" } : Jvm.MethodName) jdk_35_method_50_code (2 : Nat) (Option.some Jvm.ClassFile.FieldType.int), Jvm.Cond.code ({ cls := "java/lang/Long", name := "numberOfLeadingZeros", desc := "(J)I" } : Jvm.MethodName) jdk_35_method_48_code (3 : Nat) (Option.some Jvm.ClassFile.FieldType.int), Jvm.Cond.code ({ cls := "java/lang/Integer", name := "numberOfLeadingZeros", desc := "(I)I" } : Jvm.MethodName) jdk_33_method_47_code (2 : Nat) (Option.some Jvm.ClassFile.FieldType.int), Jvm.Cond.code ({ cls := "java/lang/Math", name := "min", desc := "(II)I" } : Jvm.MethodName) jdk_29_method_69_code (2 : Nat) (Option.some Jvm.ClassFile.FieldType.int), Jvm.Cond.code ({ cls := "java/util/Arrays", name := "copyOf", desc := "([II)[I" } : Jvm.MethodName) jdk_65_method_123_code (3 : Nat) (Option.some (Jvm.ClassFile.FieldType.array Jvm.ClassFile.FieldType.int)), Jvm.Cond.code ({ cls := "java/util/Arrays", name := "copyOf", desc := "([JI)[J" } : Jvm.MethodName) jdk_65_method_124_code (3 : Nat) (Option.some (Jvm.ClassFile.FieldType.array Jvm.ClassFile.FieldType.long)), Jvm.Cond.code ({ cls := "com/example/marke/marke/analysis/MarkingLayout", name := "pack", desc := "([J[J)Z" } : Jvm.MethodName) prog_12_method_6_code (8 : Nat) (Option.some Jvm.ClassFile.FieldType.boolean), Jvm.Cond.code ({ cls := "com/example/marke/marke/analysis/MarkingLayoutPackPinLaw", name := "width", desc := "(J)I" } : Jvm.MethodName) method_3_code (2 : Nat) (Option.some Jvm.ClassFile.FieldType.int), Jvm.Cond.code ({ cls := "com/example/marke/marke/analysis/MarkingLayoutPackPinLaw", name := "bitLen", desc := "(J)I" } : Jvm.MethodName) method_2_code (3 : Nat) (Option.some Jvm.ClassFile.FieldType.int), Jvm.Cond.code ({ cls := "com/example/marke/marke/analysis/MarkingLayoutPackPinLaw", name := "ones", desc := "(I)J" } : Jvm.MethodName) method_4_code (1 : Nat) (Option.some Jvm.ClassFile.FieldType.long)]
set_option maxRecDepth 65536 in
theorem codes_eq : words1.filter isCode = codes1 := rfl
theorem w_codes : ∀ c ∈ words1.filter isCode, c.before args0 about1 = true := by
  rw [codes_eq]
  intro c hc
  simp only [codes1, List.mem_cons, List.not_mem_nil, or_false] at hc
  rcases hc with rfl | rfl | rfl | rfl | rfl | rfl | rfl | rfl | rfl | rfl | rfl | rfl | rfl | rfl | rfl | rfl | rfl | rfl | rfl | rfl | rfl
  · exact w_c0
  · exact w_c1
  · exact w_c2
  · exact w_c3
  · exact w_c4
  · exact w_c5
  · exact w_c6
  · exact w_c7
  · exact w_c8
  · exact w_c9
  · exact w_c10
  · exact w_c11
  · exact w_c12
  · exact w_c13
  · exact w_c14
  · exact w_c15
  · exact w_c16
  · exact w_c17
  · exact w_c18
  · exact w_c19
  · exact w_c20
set_option maxRecDepth 65536 in
theorem w_t1 : (words1.take 24).all (fun c => isCode c || c.before args0 about1) = true := by decide +kernel
set_option maxRecDepth 65536 in
theorem w_t2 : ((words1.drop 24).take 24).all (fun c => isCode c || c.before args0 about1) = true := by decide +kernel
set_option maxRecDepth 65536 in
theorem w_t3 : (((words1.drop 24).drop 24).take 24).all (fun c => isCode c || c.before args0 about1) = true := by decide +kernel
set_option maxRecDepth 65536 in
theorem w_t4 : ((((words1.drop 24).drop 24).drop 24).take 24).all (fun c => isCode c || c.before args0 about1) = true := by decide +kernel
set_option maxRecDepth 65536 in
theorem w_t5 : ((((words1.drop 24).drop 24).drop 24).drop 24).all (fun c => isCode c || c.before args0 about1) = true := by decide +kernel
theorem w_tables : (allAtoms (Jvm.Cond.code x code maxLocals ret :: tables_1)).before args0 about1 = true := by
  rw [allAtoms_all]
  show words1.all (fun c => c.before args0 about1) = true
  refine all_split ?_ w_codes
  rw [← List.take_append_drop 24 words1, List.all_append, w_t1, ← List.take_append_drop 24 (words1.drop 24), List.all_append, w_t2, ← List.take_append_drop 24 ((words1.drop 24).drop 24), List.all_append, w_t3, ← List.take_append_drop 24 (((words1.drop 24).drop 24).drop 24), List.all_append, w_t4, w_t5]
  rfl
set_option maxRecDepth 65536 in
theorem w_case : (Jvm.Cond.and given_1 narrow_1).before args0 about1 = true := by decide +kernel
theorem w_applies : (headSpec (Jvm.Cond.code x code maxLocals ret :: tables_1) room_1).applies x e0.platform about1 = true :=
  (Spec.applies_iff w_frames).mpr ⟨w_running, w_runnable, w_alone, w_named, w_hears, w_ripe, w_room, w_tables⟩
theorem atStart : AtStart classFile x code maxLocals ret World_1 tables_1 room_1 Calls_1 rest_1 Pre_1 launch0 p0 e0 about1 theMethod args0 below0 :=
  ⟨lists_1, trivial, launch0.admits_env _ _ _, launch0.least_env, fairChoices_fair.cas, fairChoices_fair.clock, w_frames, w_args, w_heap, w_applies, trivial, trivial, w_case⟩
end start1
theorem witness_1 : WitnessClaimed_1 := ⟨start1.p0, start1.e0, start1.about1, start1.theMethod, start1.args0, start1.below0, start1.atStart⟩
end Jvm.Pilot.@@N@@
