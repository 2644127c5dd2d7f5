import JvmDerived
import JvmDerived.Pilot.@@N@@Statement
import JvmDerived.Pilot.@@N@@Code
set_option linter.unusedVariables false
set_option linter.unusedSimpArgs false
namespace Jvm.Pilot.@@N@@
open Jvm Jvm.ClassFile Sem Op Lib Jvm.Free Jvm.Stand Jvm.LawKit Jvm.RoadKit Bundle Jvm.Pilot.@@N@@.Jvm.D
section Layer
variable {p : Program} {l : Launch} {e : Env} {R : Room} {s : State} {m : MethodId} {args : Array Value} {below : List Frame} {meth : Method} {c : Code} {T : State} {locs : List Loc} {cells slots : Nat} {Q : Option Value → Heap → List Loc → Prop} {K N : Nat} {pc n : Nat} {Ls : Array Slot} {rest st : List Value} {Z : State} {a0 : Array Value} {h : Heap}
/-- from st on the invocation ends as Q says -/
def Goes (p : Program) (e : Env) (below : List Frame) (s : State) (Q : Option Value → Heap → List Loc → Prop) (K N : Nat) (st : State) : Prop :=
  ∃ s₂ o, Steps p.tables e below st s₂ ∧ s₂.status = .running ∧ Ended s₂ below o ∧ ∃ v L, o = .returned v ∧ Q v s₂.heap L ∧ FrameEnd s o s₂ L K N
theorem Goes.via {st st' : State} (g : Goes p e below s Q K N st') (h : ∀ t, Steps p.tables e below st' t → Steps p.tables e below st t) : Goes p e below s Q K N st := by
  obtain ⟨s₂, o, h1, r⟩ := g
  exact ⟨s₂, o, h _ h1, r⟩
/-- a body's contract -/
def Does (l : Launch) (Z : State) (y : MethodName) (bytes : ByteArray) (maxL : Nat) (ret : Option FieldType) (ws : List Jvm.Cond) (rm : Room) (as : Array Value) (h : Heap) (Q : Option Value → Heap → List Loc → Prop) : Prop :=
  MetFree l y (head1 (Jvm.Cond.code y bytes maxL ret :: ws) rm) (fun a U => a = as ∧ Z.Warmed39 U.vm ∧ U.heap = h) (fun _ _ _ _ _ => True) (fun _ U o U' => ∃ v L, o = .returned v ∧ Q v U'.heap L ∧ FrameEnd U o U' L rm.cells rm.slots)
theorem Does.of {y : MethodName} {bytes : ByteArray} {maxL : Nat} {ret : Option FieldType} {ws : List Jvm.Cond} {rm : Room} {as : Array Value} (hpl : plainFor y = true)
    (body : ∀ (p : Program) (e : Env) (s : State) (m : MethodId) (below : List Frame) (meth : Method) (c : Code) (T : State), p.tables.exec = Jvm.exec → c.code = bytes → c.maxLocals = maxL → s.vm.findClass y.cls = some m.cls → meth.name = y.name → meth.sig.returnType = ret → meth.locks = false → Z.Warmed39 s.vm → Stand p l e rm s m as below meth c T [] 0 0 → T.heap = h → Goes p e below s Q rm.cells rm.slots (T.setTop (entryFrame m as maxL))) : Does l Z y bytes maxL ret ws rm as h Q := by
  refine MetFree.of_bodySF hpl hisR ?_
  intro p e s m args below meth c s₁ Bd hml0 hP hK
  obtain ⟨rfl, hZ, hh⟩ := hP
  have X0 : Stand p l e rm s m args below meth c s₁ [] 0 0 := Stand.of_body Bd
  exact body p e s m below meth c s₁ Bd.exec Bd.bytes hml0 (findClass_of_methodNamed Bd.named) (name_of_methodNamed Bd.named Bd.method).1 Bd.returns Bd.notSynchronized hZ X0 (by rw [← hh, Bd.state]; rfl)
theorem o_entry {as : Array Value} {maxL : Nat} (q : entryFrame m as maxL = mkF m 0 Ls []) (g : Goes p e below s Q K N (T.setTop (mkF m 0 Ls []))) : Goes p e below s Q K N (T.setTop (entryFrame m as maxL)) := q ▸ g
theorem o_iload (X : Stand p l e R s m args below meth c T locs cells slots) (hx : p.tables.exec = Jvm.exec) {j : Nat} {v : Int32} (hd : decode c.code pc = .ok (.iload j, 2)) (hl : Ls[j]? = some (.val (.int v))) (hn : pc + 2 = n) (g : Goes p e below s Q K N (T.setTop (mkF m n Ls (.int v :: st)))) : Goes p e below s Q K N (T.setTop (mkF m pc Ls st)) := by
  subst hn
  exact g.via fun t k => XS.iload X.here hx rfl hd hl k
theorem o_iloadN (X : Stand p l e R s m args below meth c T locs cells slots) (hx : p.tables.exec = Jvm.exec) {j : Fin 4} {v : Int32} (hd : decode c.code pc = .ok (.iload_n j, 1)) (hl : Ls[j.val]? = some (.val (.int v))) (hn : pc + 1 = n) (g : Goes p e below s Q K N (T.setTop (mkF m n Ls (.int v :: st)))) : Goes p e below s Q K N (T.setTop (mkF m pc Ls st)) := by
  subst hn
  exact g.via fun t k => XS.iloadN X.here hx rfl hd hl k
theorem o_lload (X : Stand p l e R s m args below meth c T locs cells slots) (hx : p.tables.exec = Jvm.exec) {j : Nat} {v : Int64} (hd : decode c.code pc = .ok (.lload j, 2)) (hl : Ls[j]? = some (.val (.long v))) (hn : pc + 2 = n) (g : Goes p e below s Q K N (T.setTop (mkF m n Ls (.long v :: st)))) : Goes p e below s Q K N (T.setTop (mkF m pc Ls st)) := by
  subst hn
  exact g.via fun t k => XS.lload X.here hx rfl hd hl k
theorem o_lloadN (X : Stand p l e R s m args below meth c T locs cells slots) (hx : p.tables.exec = Jvm.exec) {j : Fin 4} {v : Int64} (hd : decode c.code pc = .ok (.lload_n j, 1)) (hl : Ls[j.val]? = some (.val (.long v))) (hn : pc + 1 = n) (g : Goes p e below s Q K N (T.setTop (mkF m n Ls (.long v :: st)))) : Goes p e below s Q K N (T.setTop (mkF m pc Ls st)) := by
  subst hn
  exact g.via fun t k => XS.lloadN X.here hx rfl hd hl k
theorem o_aload (X : Stand p l e R s m args below meth c T locs cells slots) (hx : p.tables.exec = Jvm.exec) {j : Nat} {v : Value} (hd : decode c.code pc = .ok (.aload j, 2)) (hl : Ls[j]? = some (.val v)) (hv : v.isRef = true) (hn : pc + 2 = n) (g : Goes p e below s Q K N (T.setTop (mkF m n Ls (v :: st)))) : Goes p e below s Q K N (T.setTop (mkF m pc Ls st)) := by
  subst hn
  exact g.via fun t k => XS.aload X.here hx rfl hd hl hv k
theorem o_aloadN (X : Stand p l e R s m args below meth c T locs cells slots) (hx : p.tables.exec = Jvm.exec) {j : Fin 4} {v : Value} (hd : decode c.code pc = .ok (.aload_n j, 1)) (hl : Ls[j.val]? = some (.val v)) (hv : v.isRef = true) (hn : pc + 1 = n) (g : Goes p e below s Q K N (T.setTop (mkF m n Ls (v :: st)))) : Goes p e below s Q K N (T.setTop (mkF m pc Ls st)) := by
  subst hn
  exact g.via fun t k => XS.aloadN X.here hx rfl hd hl hv k
theorem o_istore (X : Stand p l e R s m args below meth c T locs cells slots) (hx : p.tables.exec = Jvm.exec) {j : Nat} {v : Int32} {Ls' : Array Slot} (hd : decode c.code pc = .ok (.istore j, 2)) (hl : storeLocals Ls j (.int v) = some Ls') (hn : pc + 2 = n) (g : Goes p e below s Q K N (T.setTop (mkF m n Ls' rest))) : Goes p e below s Q K N (T.setTop (mkF m pc Ls (.int v :: rest))) := by
  subst hn
  exact g.via fun t k => XS.istore X.here hx rfl hd rfl hl k
theorem o_istoreN (X : Stand p l e R s m args below meth c T locs cells slots) (hx : p.tables.exec = Jvm.exec) {j : Fin 4} {v : Int32} {Ls' : Array Slot} (hd : decode c.code pc = .ok (.istore_n j, 1)) (hl : storeLocals Ls j.val (.int v) = some Ls') (hn : pc + 1 = n) (g : Goes p e below s Q K N (T.setTop (mkF m n Ls' rest))) : Goes p e below s Q K N (T.setTop (mkF m pc Ls (.int v :: rest))) := by
  subst hn
  exact g.via fun t k => XS.istoreN X.here hx rfl hd rfl hl k
theorem o_lstore (X : Stand p l e R s m args below meth c T locs cells slots) (hx : p.tables.exec = Jvm.exec) {j : Nat} {v : Int64} {Ls' : Array Slot} (hd : decode c.code pc = .ok (.lstore j, 2)) (hl : storeLocals Ls j (.long v) = some Ls') (hn : pc + 2 = n) (g : Goes p e below s Q K N (T.setTop (mkF m n Ls' rest))) : Goes p e below s Q K N (T.setTop (mkF m pc Ls (.long v :: rest))) := by
  subst hn
  exact g.via fun t k => XS.lstore X.here hx rfl hd rfl hl k
theorem o_lstoreN (X : Stand p l e R s m args below meth c T locs cells slots) (hx : p.tables.exec = Jvm.exec) {j : Fin 4} {v : Int64} {Ls' : Array Slot} (hd : decode c.code pc = .ok (.lstore_n j, 1)) (hl : storeLocals Ls j.val (.long v) = some Ls') (hn : pc + 1 = n) (g : Goes p e below s Q K N (T.setTop (mkF m n Ls' rest))) : Goes p e below s Q K N (T.setTop (mkF m pc Ls (.long v :: rest))) := by
  subst hn
  exact g.via fun t k => XS.lstoreN X.here hx rfl hd rfl hl k
theorem o_astore (X : Stand p l e R s m args below meth c T locs cells slots) (hx : p.tables.exec = Jvm.exec) {j : Nat} {v : Value} {Ls' : Array Slot} (hd : decode c.code pc = .ok (.astore j, 2)) (hv : v.isRef = true) (hl : storeLocals Ls j v = some Ls') (hn : pc + 2 = n) (g : Goes p e below s Q K N (T.setTop (mkF m n Ls' rest))) : Goes p e below s Q K N (T.setTop (mkF m pc Ls (v :: rest))) := by
  subst hn
  exact g.via fun t k => XS.astore X.here hx rfl hd rfl hv hl k
theorem o_astoreN (X : Stand p l e R s m args below meth c T locs cells slots) (hx : p.tables.exec = Jvm.exec) {j : Fin 4} {v : Value} {Ls' : Array Slot} (hd : decode c.code pc = .ok (.astore_n j, 1)) (hv : v.isRef = true) (hl : storeLocals Ls j.val v = some Ls') (hn : pc + 1 = n) (g : Goes p e below s Q K N (T.setTop (mkF m n Ls' rest))) : Goes p e below s Q K N (T.setTop (mkF m pc Ls (v :: rest))) := by
  subst hn
  exact g.via fun t k => XS.astoreN X.here hx rfl hd rfl hv hl k
theorem o_iinc (X : Stand p l e R s m args below meth c T locs cells slots) (hx : p.tables.exec = Jvm.exec) {j : Nat} {cst : Int} {x w : Int32} {Ls' : Array Slot} (hd : decode c.code pc = .ok (.iinc j cst, 3)) (hl : Ls[j]? = some (.val (.int x))) (hw : x + Int32.ofInt cst = w) (hl' : storeLocals Ls j (.int w) = some Ls') (hn : pc + 3 = n) (g : Goes p e below s Q K N (T.setTop (mkF m n Ls' st))) : Goes p e below s Q K N (T.setTop (mkF m pc Ls st)) := by
  subst hn
  exact g.via fun t k => XS.iinc X.here hx rfl hd hl (by rw [hw]; exact hl') k
theorem o_iconst (X : Stand p l e R s m args below meth c T locs cells slots) (hx : p.tables.exec = Jvm.exec) {i : Int} {v : Int32} (hd : decode c.code pc = .ok (.iconst i, 1)) (hv : Int32.ofInt i = v) (hn : pc + 1 = n) (g : Goes p e below s Q K N (T.setTop (mkF m n Ls (.int v :: st)))) : Goes p e below s Q K N (T.setTop (mkF m pc Ls st)) := by
  subst hn hv
  exact g.via fun t k => XS.iconst X.here hx rfl hd k
theorem o_bipush (X : Stand p l e R s m args below meth c T locs cells slots) (hx : p.tables.exec = Jvm.exec) {i : Int} {v : Int32} (hd : decode c.code pc = .ok (.bipush i, 2)) (hv : (Int8.ofInt i).toInt32 = v) (hn : pc + 2 = n) (g : Goes p e below s Q K N (T.setTop (mkF m n Ls (.int v :: st)))) : Goes p e below s Q K N (T.setTop (mkF m pc Ls st)) := by
  subst hn hv
  exact g.via fun t k => XS.bipush X.here hx rfl hd k
theorem o_sipush (X : Stand p l e R s m args below meth c T locs cells slots) (hx : p.tables.exec = Jvm.exec) {i : Int} {v : Int32} (hd : decode c.code pc = .ok (.sipush i, 3)) (hv : (Int16.ofInt i).toInt32 = v) (hn : pc + 3 = n) (g : Goes p e below s Q K N (T.setTop (mkF m n Ls (.int v :: st)))) : Goes p e below s Q K N (T.setTop (mkF m pc Ls st)) := by
  subst hn hv
  exact g.via fun t k => XS.sipush X.here hx rfl hd k
theorem o_lconst (X : Stand p l e R s m args below meth c T locs cells slots) (hx : p.tables.exec = Jvm.exec) {j : Fin 2} {v : Int64} (hd : decode c.code pc = .ok (.lconst j, 1)) (hv : Int64.ofNat j = v) (hn : pc + 1 = n) (g : Goes p e below s Q K N (T.setTop (mkF m n Ls (.long v :: st)))) : Goes p e below s Q K N (T.setTop (mkF m pc Ls st)) := by
  subst hn hv
  exact g.via fun t k => XS.lconst X.here hx rfl hd k
theorem o_aconst_null (X : Stand p l e R s m args below meth c T locs cells slots) (hx : p.tables.exec = Jvm.exec)  (hd : decode c.code pc = .ok (.aconst_null, 1)) (hn : pc + 1 = n) (g : Goes p e below s Q K N (T.setTop (mkF m n Ls (.null :: st)))) : Goes p e below s Q K N (T.setTop (mkF m pc Ls st)) := by
  subst hn
  exact g.via fun t k => XS.aconstNull X.here hx rfl hd k
theorem o_ldc (X : Stand p l e R s m args below meth c T locs cells slots) (hx : p.tables.exec = Jvm.exec)  (hZ : Z.Warmed39 s.vm) {own : String} {index : Nat} {v : Int32} (hown : s.vm.findClass own = some m.cls) (w : (Jvm.Cond.constant own index v).before a0 Z = true) (hd : decode c.code pc = .ok (.ldc index, 2)) (hn : pc + 2 = n) (g : Goes p e below s Q K N (T.setTop (mkF m n Ls (.int v :: st)))) : Goes p e below s Q K N (T.setTop (mkF m pc Ls st)) := by
  subst hn
  exact g.via fun t k => X.ldcInt hx hown (mvT hZ w) (g := mkF m pc Ls st) rfl hd t k
theorem o_ldc_w (X : Stand p l e R s m args below meth c T locs cells slots) (hx : p.tables.exec = Jvm.exec)  (hZ : Z.Warmed39 s.vm) {own : String} {index : Nat} {v : Int32} (hown : s.vm.findClass own = some m.cls) (w : (Jvm.Cond.constant own index v).before a0 Z = true) (hd : decode c.code pc = .ok (.ldc_w index, 3)) (hn : pc + 3 = n) (g : Goes p e below s Q K N (T.setTop (mkF m n Ls (.int v :: st)))) : Goes p e below s Q K N (T.setTop (mkF m pc Ls st)) := by
  subst hn
  exact g.via fun t k => X.ldcWInt hx hown (mvT hZ w) (g := mkF m pc Ls st) rfl hd t k
theorem o_ldc2_w (X : Stand p l e R s m args below meth c T locs cells slots) (hx : p.tables.exec = Jvm.exec)  (hZ : Z.Warmed39 s.vm) {own : String} {index : Nat} {v : Int64} (hown : s.vm.findClass own = some m.cls) (w : (Jvm.Cond.constantLong own index v).before a0 Z = true) (hd : decode c.code pc = .ok (.ldc2_w index, 3)) (hn : pc + 3 = n) (g : Goes p e below s Q K N (T.setTop (mkF m n Ls (.long v :: st)))) : Goes p e below s Q K N (T.setTop (mkF m pc Ls st)) := by
  subst hn
  exact g.via fun t k => X.ldc2Long hx hown (mvT hZ w) (g := mkF m pc Ls st) rfl hd t k
theorem o_iadd (X : Stand p l e R s m args below meth c T locs cells slots) (hx : p.tables.exec = Jvm.exec) {x y v : Int32} (hd : decode c.code pc = .ok (.iadd, 1)) (hv : x + y = v) (hn : pc + 1 = n) (g : Goes p e below s Q K N (T.setTop (mkF m n Ls (.int v :: rest)))) : Goes p e below s Q K N (T.setTop (mkF m pc Ls (.int y :: .int x :: rest))) := by
  subst hn hv
  exact g.via fun t k => XS.iadd X.here hx rfl hd rfl k
theorem o_isub (X : Stand p l e R s m args below meth c T locs cells slots) (hx : p.tables.exec = Jvm.exec) {x y v : Int32} (hd : decode c.code pc = .ok (.isub, 1)) (hv : x - y = v) (hn : pc + 1 = n) (g : Goes p e below s Q K N (T.setTop (mkF m n Ls (.int v :: rest)))) : Goes p e below s Q K N (T.setTop (mkF m pc Ls (.int y :: .int x :: rest))) := by
  subst hn hv
  exact g.via fun t k => XS.isub X.here hx rfl hd rfl k
theorem o_imul (X : Stand p l e R s m args below meth c T locs cells slots) (hx : p.tables.exec = Jvm.exec) {x y v : Int32} (hd : decode c.code pc = .ok (.imul, 1)) (hv : x * y = v) (hn : pc + 1 = n) (g : Goes p e below s Q K N (T.setTop (mkF m n Ls (.int v :: rest)))) : Goes p e below s Q K N (T.setTop (mkF m pc Ls (.int y :: .int x :: rest))) := by
  subst hn hv
  exact g.via fun t k => XS.imul X.here hx rfl hd rfl k
theorem o_iand (X : Stand p l e R s m args below meth c T locs cells slots) (hx : p.tables.exec = Jvm.exec) {x y v : Int32} (hd : decode c.code pc = .ok (.iand, 1)) (hv : x &&& y = v) (hn : pc + 1 = n) (g : Goes p e below s Q K N (T.setTop (mkF m n Ls (.int v :: rest)))) : Goes p e below s Q K N (T.setTop (mkF m pc Ls (.int y :: .int x :: rest))) := by
  subst hn hv
  exact g.via fun t k => XS.iand X.here hx rfl hd rfl k
theorem o_ior (X : Stand p l e R s m args below meth c T locs cells slots) (hx : p.tables.exec = Jvm.exec) {x y v : Int32} (hd : decode c.code pc = .ok (.ior, 1)) (hv : x ||| y = v) (hn : pc + 1 = n) (g : Goes p e below s Q K N (T.setTop (mkF m n Ls (.int v :: rest)))) : Goes p e below s Q K N (T.setTop (mkF m pc Ls (.int y :: .int x :: rest))) := by
  subst hn hv
  exact g.via fun t k => XS.ior X.here hx rfl hd rfl k
theorem o_ixor (X : Stand p l e R s m args below meth c T locs cells slots) (hx : p.tables.exec = Jvm.exec) {x y v : Int32} (hd : decode c.code pc = .ok (.ixor, 1)) (hv : x ^^^ y = v) (hn : pc + 1 = n) (g : Goes p e below s Q K N (T.setTop (mkF m n Ls (.int v :: rest)))) : Goes p e below s Q K N (T.setTop (mkF m pc Ls (.int y :: .int x :: rest))) := by
  subst hn hv
  exact g.via fun t k => XS.ixor X.here hx rfl hd rfl k
theorem o_ladd (X : Stand p l e R s m args below meth c T locs cells slots) (hx : p.tables.exec = Jvm.exec) {x y v : Int64} (hd : decode c.code pc = .ok (.ladd, 1)) (hv : x + y = v) (hn : pc + 1 = n) (g : Goes p e below s Q K N (T.setTop (mkF m n Ls (.long v :: rest)))) : Goes p e below s Q K N (T.setTop (mkF m pc Ls (.long y :: .long x :: rest))) := by
  subst hn hv
  exact g.via fun t k => XS.ladd X.here hx rfl hd rfl k
theorem o_lsub (X : Stand p l e R s m args below meth c T locs cells slots) (hx : p.tables.exec = Jvm.exec) {x y v : Int64} (hd : decode c.code pc = .ok (.lsub, 1)) (hv : x - y = v) (hn : pc + 1 = n) (g : Goes p e below s Q K N (T.setTop (mkF m n Ls (.long v :: rest)))) : Goes p e below s Q K N (T.setTop (mkF m pc Ls (.long y :: .long x :: rest))) := by
  subst hn hv
  exact g.via fun t k => XS.lsub X.here hx rfl hd rfl k
theorem o_lmul (X : Stand p l e R s m args below meth c T locs cells slots) (hx : p.tables.exec = Jvm.exec) {x y v : Int64} (hd : decode c.code pc = .ok (.lmul, 1)) (hv : x * y = v) (hn : pc + 1 = n) (g : Goes p e below s Q K N (T.setTop (mkF m n Ls (.long v :: rest)))) : Goes p e below s Q K N (T.setTop (mkF m pc Ls (.long y :: .long x :: rest))) := by
  subst hn hv
  exact g.via fun t k => XS.lmul X.here hx rfl hd rfl k
theorem o_land (X : Stand p l e R s m args below meth c T locs cells slots) (hx : p.tables.exec = Jvm.exec) {x y v : Int64} (hd : decode c.code pc = .ok (.land, 1)) (hv : x &&& y = v) (hn : pc + 1 = n) (g : Goes p e below s Q K N (T.setTop (mkF m n Ls (.long v :: rest)))) : Goes p e below s Q K N (T.setTop (mkF m pc Ls (.long y :: .long x :: rest))) := by
  subst hn hv
  exact g.via fun t k => XS.land X.here hx rfl hd rfl k
theorem o_lor (X : Stand p l e R s m args below meth c T locs cells slots) (hx : p.tables.exec = Jvm.exec) {x y v : Int64} (hd : decode c.code pc = .ok (.lor, 1)) (hv : x ||| y = v) (hn : pc + 1 = n) (g : Goes p e below s Q K N (T.setTop (mkF m n Ls (.long v :: rest)))) : Goes p e below s Q K N (T.setTop (mkF m pc Ls (.long y :: .long x :: rest))) := by
  subst hn hv
  exact g.via fun t k => XS.lor X.here hx rfl hd rfl k
theorem o_lxor (X : Stand p l e R s m args below meth c T locs cells slots) (hx : p.tables.exec = Jvm.exec) {x y v : Int64} (hd : decode c.code pc = .ok (.lxor, 1)) (hv : x ^^^ y = v) (hn : pc + 1 = n) (g : Goes p e below s Q K N (T.setTop (mkF m n Ls (.long v :: rest)))) : Goes p e below s Q K N (T.setTop (mkF m pc Ls (.long y :: .long x :: rest))) := by
  subst hn hv
  exact g.via fun t k => XS.lxor X.here hx rfl hd rfl k
theorem o_idiv (X : Stand p l e R s m args below meth c T locs cells slots) (hx : p.tables.exec = Jvm.exec) {x y v : Int32} (hd : decode c.code pc = .ok (.idiv, 1)) (hy : y ≠ 0) (hv : x / y = v) (hn : pc + 1 = n) (g : Goes p e below s Q K N (T.setTop (mkF m n Ls (.int v :: rest)))) : Goes p e below s Q K N (T.setTop (mkF m pc Ls (.int y :: .int x :: rest))) := by
  subst hn hv
  exact g.via fun t k => XS.idiv X.here hx rfl hd rfl hy k
theorem o_irem (X : Stand p l e R s m args below meth c T locs cells slots) (hx : p.tables.exec = Jvm.exec) {x y v : Int32} (hd : decode c.code pc = .ok (.irem, 1)) (hy : y ≠ 0) (hv : x % y = v) (hn : pc + 1 = n) (g : Goes p e below s Q K N (T.setTop (mkF m n Ls (.int v :: rest)))) : Goes p e below s Q K N (T.setTop (mkF m pc Ls (.int y :: .int x :: rest))) := by
  subst hn hv
  exact g.via fun t k => iremM X hx (g := mkF m pc Ls _) rfl hd rfl hy k
theorem o_ldiv (X : Stand p l e R s m args below meth c T locs cells slots) (hx : p.tables.exec = Jvm.exec) {x y v : Int64} (hd : decode c.code pc = .ok (.ldiv, 1)) (hy : y ≠ 0) (hv : x / y = v) (hn : pc + 1 = n) (g : Goes p e below s Q K N (T.setTop (mkF m n Ls (.long v :: rest)))) : Goes p e below s Q K N (T.setTop (mkF m pc Ls (.long y :: .long x :: rest))) := by
  subst hn hv
  exact g.via fun t k => XS.ldiv X.here hx rfl hd rfl hy k
theorem o_lrem (X : Stand p l e R s m args below meth c T locs cells slots) (hx : p.tables.exec = Jvm.exec) {x y v : Int64} (hd : decode c.code pc = .ok (.lrem, 1)) (hy : y ≠ 0) (hv : x % y = v) (hn : pc + 1 = n) (g : Goes p e below s Q K N (T.setTop (mkF m n Ls (.long v :: rest)))) : Goes p e below s Q K N (T.setTop (mkF m pc Ls (.long y :: .long x :: rest))) := by
  subst hn hv
  exact g.via fun t k => XS.lrem X.here hx rfl hd rfl hy (by rw [lrem_mod]; exact k)
theorem o_ishl (X : Stand p l e R s m args below meth c T locs cells slots) (hx : p.tables.exec = Jvm.exec) {x y v : Int32} (hd : decode c.code pc = .ok (.ishl, 1)) (hv : x <<< (y &&& 31) = v) (hn : pc + 1 = n) (g : Goes p e below s Q K N (T.setTop (mkF m n Ls (.int v :: rest)))) : Goes p e below s Q K N (T.setTop (mkF m pc Ls (.int y :: .int x :: rest))) := by
  subst hn hv
  exact g.via fun t k => XS.ishl X.here hx rfl hd rfl k
theorem o_ishr (X : Stand p l e R s m args below meth c T locs cells slots) (hx : p.tables.exec = Jvm.exec) {x y v : Int32} (hd : decode c.code pc = .ok (.ishr, 1)) (hv : x >>> (y &&& 31) = v) (hn : pc + 1 = n) (g : Goes p e below s Q K N (T.setTop (mkF m n Ls (.int v :: rest)))) : Goes p e below s Q K N (T.setTop (mkF m pc Ls (.int y :: .int x :: rest))) := by
  subst hn hv
  exact g.via fun t k => XS.ishr X.here hx rfl hd rfl k
theorem o_iushr (X : Stand p l e R s m args below meth c T locs cells slots) (hx : p.tables.exec = Jvm.exec) {x y v : Int32} (hd : decode c.code pc = .ok (.iushr, 1)) (hv : (x.toUInt32 >>> (y &&& 31).toUInt32).toInt32 = v) (hn : pc + 1 = n) (g : Goes p e below s Q K N (T.setTop (mkF m n Ls (.int v :: rest)))) : Goes p e below s Q K N (T.setTop (mkF m pc Ls (.int y :: .int x :: rest))) := by
  subst hn hv
  exact g.via fun t k => XS.iushr X.here hx rfl hd rfl k
theorem o_lshl (X : Stand p l e R s m args below meth c T locs cells slots) (hx : p.tables.exec = Jvm.exec) {x v : Int64} {y : Int32} (hd : decode c.code pc = .ok (.lshl, 1)) (hv : x <<< (y &&& 0x3f).toInt64 = v) (hn : pc + 1 = n) (g : Goes p e below s Q K N (T.setTop (mkF m n Ls (.long v :: rest)))) : Goes p e below s Q K N (T.setTop (mkF m pc Ls (.int y :: .long x :: rest))) := by
  subst hn hv
  exact g.via fun t k => XS.lshl X.here hx rfl hd rfl k
theorem o_lshr (X : Stand p l e R s m args below meth c T locs cells slots) (hx : p.tables.exec = Jvm.exec) {x v : Int64} {y : Int32} (hd : decode c.code pc = .ok (.lshr, 1)) (hv : x >>> (y &&& 0x3f).toInt64 = v) (hn : pc + 1 = n) (g : Goes p e below s Q K N (T.setTop (mkF m n Ls (.long v :: rest)))) : Goes p e below s Q K N (T.setTop (mkF m pc Ls (.int y :: .long x :: rest))) := by
  subst hn hv
  exact g.via fun t k => XS.lshr X.here hx rfl hd rfl k
theorem o_lushr (X : Stand p l e R s m args below meth c T locs cells slots) (hx : p.tables.exec = Jvm.exec) {x v : Int64} {y : Int32} (hd : decode c.code pc = .ok (.lushr, 1)) (hv : (x.toUInt64 >>> (y &&& 0x3f).toInt64.toUInt64).toInt64 = v) (hn : pc + 1 = n) (g : Goes p e below s Q K N (T.setTop (mkF m n Ls (.long v :: rest)))) : Goes p e below s Q K N (T.setTop (mkF m pc Ls (.int y :: .long x :: rest))) := by
  subst hn hv
  exact g.via fun t k => XS.lushr X.here hx rfl hd rfl k
theorem o_i2l (X : Stand p l e R s m args below meth c T locs cells slots) (hx : p.tables.exec = Jvm.exec) {x : Int32} {v : Int64} (hd : decode c.code pc = .ok (.i2l, 1)) (hv : x.toInt64 = v) (hn : pc + 1 = n) (g : Goes p e below s Q K N (T.setTop (mkF m n Ls (.long v :: rest)))) : Goes p e below s Q K N (T.setTop (mkF m pc Ls (.int x :: rest))) := by
  subst hn hv
  exact g.via fun t k => XS.i2l X.here hx rfl hd rfl k
theorem o_l2i (X : Stand p l e R s m args below meth c T locs cells slots) (hx : p.tables.exec = Jvm.exec) {x : Int64} {v : Int32} (hd : decode c.code pc = .ok (.l2i, 1)) (hv : x.toInt32 = v) (hn : pc + 1 = n) (g : Goes p e below s Q K N (T.setTop (mkF m n Ls (.int v :: rest)))) : Goes p e below s Q K N (T.setTop (mkF m pc Ls (.long x :: rest))) := by
  subst hn hv
  exact g.via fun t k => XS.l2i X.here hx rfl hd rfl k
theorem o_i2b (X : Stand p l e R s m args below meth c T locs cells slots) (hx : p.tables.exec = Jvm.exec) {x : Int32} {v : Int32} (hd : decode c.code pc = .ok (.i2b, 1)) (hv : x.toInt8.toInt32 = v) (hn : pc + 1 = n) (g : Goes p e below s Q K N (T.setTop (mkF m n Ls (.int v :: rest)))) : Goes p e below s Q K N (T.setTop (mkF m pc Ls (.int x :: rest))) := by
  subst hn hv
  exact g.via fun t k => XS.i2b X.here hx rfl hd rfl k
theorem o_i2c (X : Stand p l e R s m args below meth c T locs cells slots) (hx : p.tables.exec = Jvm.exec) {x : Int32} {v : Int32} (hd : decode c.code pc = .ok (.i2c, 1)) (hv : x.toUInt32.toUInt16.toUInt32.toInt32 = v) (hn : pc + 1 = n) (g : Goes p e below s Q K N (T.setTop (mkF m n Ls (.int v :: rest)))) : Goes p e below s Q K N (T.setTop (mkF m pc Ls (.int x :: rest))) := by
  subst hn hv
  exact g.via fun t k => XS.i2c X.here hx rfl hd rfl k
theorem o_i2s (X : Stand p l e R s m args below meth c T locs cells slots) (hx : p.tables.exec = Jvm.exec) {x : Int32} {v : Int32} (hd : decode c.code pc = .ok (.i2s, 1)) (hv : x.toInt16.toInt32 = v) (hn : pc + 1 = n) (g : Goes p e below s Q K N (T.setTop (mkF m n Ls (.int v :: rest)))) : Goes p e below s Q K N (T.setTop (mkF m pc Ls (.int x :: rest))) := by
  subst hn hv
  exact g.via fun t k => XS.i2s X.here hx rfl hd rfl k
theorem o_ineg (X : Stand p l e R s m args below meth c T locs cells slots) (hx : p.tables.exec = Jvm.exec) {x : Int32} {v : Int32} (hd : decode c.code pc = .ok (.ineg, 1)) (hv : -x = v) (hn : pc + 1 = n) (g : Goes p e below s Q K N (T.setTop (mkF m n Ls (.int v :: rest)))) : Goes p e below s Q K N (T.setTop (mkF m pc Ls (.int x :: rest))) := by
  subst hn hv
  exact g.via fun t k => XS.ineg X.here hx rfl hd rfl k
theorem o_lneg (X : Stand p l e R s m args below meth c T locs cells slots) (hx : p.tables.exec = Jvm.exec) {x : Int64} {v : Int64} (hd : decode c.code pc = .ok (.lneg, 1)) (hv : -x = v) (hn : pc + 1 = n) (g : Goes p e below s Q K N (T.setTop (mkF m n Ls (.long v :: rest)))) : Goes p e below s Q K N (T.setTop (mkF m pc Ls (.long x :: rest))) := by
  subst hn hv
  exact g.via fun t k => XS.lneg X.here hx rfl hd rfl k
theorem o_lcmp (X : Stand p l e R s m args below meth c T locs cells slots) (hx : p.tables.exec = Jvm.exec) {x y : Int64} (hd : decode c.code pc = .ok (.lcmp, 1)) (hn : pc + 1 = n) (g : Goes p e below s Q K N (T.setTop (mkF m n Ls (.int (XT.cmpL x y) :: rest)))) : Goes p e below s Q K N (T.setTop (mkF m pc Ls (.long y :: .long x :: rest))) := by
  subst hn
  exact g.via fun t k => XT.lcmp X.here hx rfl hd rfl k
theorem o_dup (X : Stand p l e R s m args below meth c T locs cells slots) (hx : p.tables.exec = Jvm.exec) {v : Value} (hd : decode c.code pc = .ok (.dup, 1)) (hv : v.category = 1) (hn : pc + 1 = n) (g : Goes p e below s Q K N (T.setTop (mkF m n Ls (v :: v :: rest)))) : Goes p e below s Q K N (T.setTop (mkF m pc Ls (v :: rest))) := by
  subst hn
  exact g.via fun t k => XS.dup X.here hx rfl hd rfl hv k
theorem o_dup_x1 (X : Stand p l e R s m args below meth c T locs cells slots) (hx : p.tables.exec = Jvm.exec) {v w : Value} (hd : decode c.code pc = .ok (.dup_x1, 1)) (hv : v.category = 1) (hw : w.category = 1) (hn : pc + 1 = n) (g : Goes p e below s Q K N (T.setTop (mkF m n Ls (v :: w :: v :: rest)))) : Goes p e below s Q K N (T.setTop (mkF m pc Ls (v :: w :: rest))) := by
  subst hn
  exact g.via fun t k => XS.dupX1 X.here hx rfl hd rfl hv hw k
theorem o_dup2 (X : Stand p l e R s m args below meth c T locs cells slots) (hx : p.tables.exec = Jvm.exec) {v w : Value} (hd : decode c.code pc = .ok (.dup2, 1)) (hv : v.category = 1) (hw : w.category = 1) (hn : pc + 1 = n) (g : Goes p e below s Q K N (T.setTop (mkF m n Ls (v :: w :: v :: w :: rest)))) : Goes p e below s Q K N (T.setTop (mkF m pc Ls (v :: w :: rest))) := by
  subst hn
  exact g.via fun t k => XT.dup2 X.here hx rfl hd rfl hv hw k
theorem o_pop (X : Stand p l e R s m args below meth c T locs cells slots) (hx : p.tables.exec = Jvm.exec) {v : Value} (hd : decode c.code pc = .ok (.pop, 1)) (hv : v.category = 1) (hn : pc + 1 = n) (g : Goes p e below s Q K N (T.setTop (mkF m n Ls rest))) : Goes p e below s Q K N (T.setTop (mkF m pc Ls (v :: rest))) := by
  subst hn
  exact g.via fun t k => XS.pop X.here hx rfl hd rfl hv k
theorem o_goto (X : Stand p l e R s m args below meth c T locs cells slots) (hx : p.tables.exec = Jvm.exec) {o : Int} (hd : decode c.code pc = .ok (.goto o, 3)) (ho : 0 ≤ (pc : Int) + o) (hn : ((pc : Int) + o).toNat = n) (g : Goes p e below s Q K N (T.setTop (mkF m n Ls st))) : Goes p e below s Q K N (T.setTop (mkF m pc Ls st)) := by
  exact g.via fun t k => XS.goto X.here hx rfl rfl hd ho hn k
theorem o_ifY (X : Stand p l e R s m args below meth c T locs cells slots) (hx : p.tables.exec = Jvm.exec) {cd : ClassFile.Cond} {x : Int32} {o : Int} (hd : decode c.code pc = .ok (.ifCond cd o, 3)) (hc : ifCond.holds cd x = true) (ho : 0 ≤ (pc : Int) + o) (hn : ((pc : Int) + o).toNat = n) (g : Goes p e below s Q K N (T.setTop (mkF m n Ls rest))) : Goes p e below s Q K N (T.setTop (mkF m pc Ls (.int x :: rest))) := by
  exact g.via fun t k => XS.ifYes X.here hx rfl rfl hd rfl hc ho hn k
theorem o_ifN (X : Stand p l e R s m args below meth c T locs cells slots) (hx : p.tables.exec = Jvm.exec) {cd : ClassFile.Cond} {x : Int32} {o : Int} (hd : decode c.code pc = .ok (.ifCond cd o, 3)) (hc : ifCond.holds cd x = false) (hn : pc + 3 = n) (g : Goes p e below s Q K N (T.setTop (mkF m n Ls rest))) : Goes p e below s Q K N (T.setTop (mkF m pc Ls (.int x :: rest))) := by
  subst hn
  exact g.via fun t k => XS.ifNo X.here hx rfl hd rfl hc k
theorem o_icmpY (X : Stand p l e R s m args below meth c T locs cells slots) (hx : p.tables.exec = Jvm.exec) {cd : ClassFile.Cond} {x y : Int32} {o : Int} (hd : decode c.code pc = .ok (.if_icmp cd o, 3)) (hc : if_icmp.holds cd x y = true) (ho : 0 ≤ (pc : Int) + o) (hn : ((pc : Int) + o).toNat = n) (g : Goes p e below s Q K N (T.setTop (mkF m n Ls rest))) : Goes p e below s Q K N (T.setTop (mkF m pc Ls (.int y :: .int x :: rest))) := by
  exact g.via fun t k => XS.icmpYes X.here hx rfl rfl hd rfl hc ho hn k
theorem o_icmpN (X : Stand p l e R s m args below meth c T locs cells slots) (hx : p.tables.exec = Jvm.exec) {cd : ClassFile.Cond} {x y : Int32} {o : Int} (hd : decode c.code pc = .ok (.if_icmp cd o, 3)) (hc : if_icmp.holds cd x y = false) (hn : pc + 3 = n) (g : Goes p e below s Q K N (T.setTop (mkF m n Ls rest))) : Goes p e below s Q K N (T.setTop (mkF m pc Ls (.int y :: .int x :: rest))) := by
  subst hn
  exact g.via fun t k => XS.icmpNo X.here hx rfl hd rfl hc k
theorem o_ifnullY (X : Stand p l e R s m args below meth c T locs cells slots) (hx : p.tables.exec = Jvm.exec) {o : Int} (hd : decode c.code pc = .ok (.ifnull o, 3)) (ho : 0 ≤ (pc : Int) + o) (hn : ((pc : Int) + o).toNat = n) (g : Goes p e below s Q K N (T.setTop (mkF m n Ls rest))) : Goes p e below s Q K N (T.setTop (mkF m pc Ls (.null :: rest))) := by
  exact g.via fun t k => XS.ifnullYes X.here hx rfl rfl hd rfl ho hn k
theorem o_ifnullN (X : Stand p l e R s m args below meth c T locs cells slots) (hx : p.tables.exec = Jvm.exec) {o : Int} {a : Addr} (hd : decode c.code pc = .ok (.ifnull o, 3)) (hn : pc + 3 = n) (g : Goes p e below s Q K N (T.setTop (mkF m n Ls rest))) : Goes p e below s Q K N (T.setTop (mkF m pc Ls (.ref a :: rest))) := by
  subst hn
  exact g.via fun t k => XS.ifnullNo X.here hx rfl hd rfl k
theorem o_ifnonnullY (X : Stand p l e R s m args below meth c T locs cells slots) (hx : p.tables.exec = Jvm.exec) {o : Int} {a : Addr} (hd : decode c.code pc = .ok (.ifnonnull o, 3)) (ho : 0 ≤ (pc : Int) + o) (hn : ((pc : Int) + o).toNat = n) (g : Goes p e below s Q K N (T.setTop (mkF m n Ls rest))) : Goes p e below s Q K N (T.setTop (mkF m pc Ls (.ref a :: rest))) := by
  exact g.via fun t k => XS.ifnonnullYes X.here hx rfl rfl hd rfl ho hn k
theorem o_ifnonnullN (X : Stand p l e R s m args below meth c T locs cells slots) (hx : p.tables.exec = Jvm.exec) {o : Int} (hd : decode c.code pc = .ok (.ifnonnull o, 3)) (hn : pc + 3 = n) (g : Goes p e below s Q K N (T.setTop (mkF m n Ls rest))) : Goes p e below s Q K N (T.setTop (mkF m pc Ls (.null :: rest))) := by
  subst hn
  exact g.via fun t k => XS.ifnonnullNo X.here hx rfl hd rfl k
theorem o_acmp (X : Stand p l e R s m args below meth c T locs cells slots) (hx : p.tables.exec = Jvm.exec) {cd : ACond} {x y : Value} {o : Int} {same : Bool} (hd : decode c.code pc = .ok (.if_acmp cd o, 3)) (h1 : x.isRef = true) (h2 : y.isRef = true) (hq : decide (x = y) = same) (ho : 0 ≤ (pc : Int) + o) (hn : n = if acV cd same = true then ((pc : Int) + o).toNat else pc + 3) (g : Goes p e below s Q K N (T.setTop (mkF m n Ls rest))) : Goes p e below s Q K N (T.setTop (mkF m pc Ls (y :: x :: rest))) := by
  exact g.via fun t k => Jvm.RoadKit.acmp X hx (g := mkF m pc Ls _) rfl h1 h2 rfl hd rfl hq ho hn k
/-! the heap -/
theorem o_getfield (X : Stand p l e R s m args below meth c T locs cells slots) (hx : p.tables.exec = Jvm.exec) (hZ : Z.Warmed39 s.vm) {own R0 O nm d host : String} {index : Nat} (hown : s.vm.findClass own = some m.cls) (w : (Jvm.Cond.fieldLink own index R0 nm d).before a0 Z = true ∨ (Jvm.Cond.fieldLinkNest own index R0 nm d host).before a0 Z = true) (via : Via Z R0 O nm d) (eT : T.heap = h) {a : Addr} {v : Value} (F : Fld Z h a O nm d v)
    (hd : decode c.code pc = .ok (.getfield index, 3)) (hn : pc + 3 = n) (k : ∀ T', Stand p l e R s m args below meth c T' locs cells slots → T'.heap = h → Goes p e below s Q K N (T'.setTop (mkF m n Ls (v :: rest)))) : Goes p e below s Q K N (T.setTop (mkF m pc Ls (.ref a :: rest))) := by
  subst hn
  obtain ⟨T', X', e', st'⟩ := getF X hx hZ hown w via eT F (g := mkF m pc Ls (.ref a :: rest)) rfl rfl hd
  exact (k T' X' e').via st'
theorem o_putfield (X : Stand p l e R s m args below meth c T locs cells slots) (hx : p.tables.exec = Jvm.exec) (hZ : Z.Warmed39 s.vm) {own R0 O nm d host C : String} {index kk : Nat} {ty : FieldType} (hown : s.vm.findClass own = some m.cls) (w : (Jvm.Cond.fieldLink own index R0 nm d).before a0 Z = true ∨ (Jvm.Cond.fieldLinkNest own index R0 nm d host).before a0 Z = true) (via : Via Z R0 O nm d) (eT : T.heap = h) {a : Addr} {v old : Value} (F : Fld Z h a O nm d old) (E : Exa Z h a C)
    (L : (Jvm.Cond.lays C O nm d).before a0 Z = true ∨ ((Jvm.Cond.laysFinal C O nm d).before a0 Z = true ∧ own = O ∧ meth.name = "<init>")) (wi : (Jvm.Cond.instantiable C kk).before a0 Z = true) (hty : parseFieldDescriptor d = some ty) (hnn : narrow ty v = v) (hf : fits ty v = true) (hd : decode c.code pc = .ok (.putfield index, 3)) (hn : pc + 3 = n)
    (k : ∀ T' h', Stand p l e R s m args below meth c T' (locs ++ [⟨a, Jvm.RoadKit.slotOf Z O nm d⟩]) cells slots → T'.heap = h' → Wr h h' a (Jvm.RoadKit.slotOf Z O nm d) v → Fld Z h' a O nm d v → Exa Z h' a C → Goes p e below s Q K N (T'.setTop (mkF m n Ls rest))) : Goes p e below s Q K N (T.setTop (mkF m pc Ls (v :: .ref a :: rest))) := by
  subst hn
  obtain ⟨T', h', X', e', W, st'⟩ := putF X hx hZ hown w via eT F E L wi hty hnn hf (g := mkF m pc Ls (v :: .ref a :: rest)) rfl rfl hd
  exact (k T' h' X' e' W (F.same W) (E.wr W)).via st'
theorem o_getstatic (X : Stand p l e R s m args below meth c T locs cells slots) (hx : p.tables.exec = Jvm.exec) (hZ : Z.Warmed39 s.vm) {own R0 O nm d host : String} {index : Nat} (hown : s.vm.findClass own = some m.cls) (w : (Jvm.Cond.fieldLink own index R0 nm d).before a0 Z = true ∨ (Jvm.Cond.fieldLinkNest own index R0 nm d host).before a0 Z = true) (via : Via Z R0 O nm d) (eT : T.heap = h) {v : Value} (F : Sta Z h O nm d v)
    (hd : decode c.code pc = .ok (.getstatic index, 3)) (hn : pc + 3 = n) (k : ∀ T', Stand p l e R s m args below meth c T' locs cells slots → T'.heap = h → Goes p e below s Q K N (T'.setTop (mkF m n Ls (v :: st)))) : Goes p e below s Q K N (T.setTop (mkF m pc Ls st)) := by
  subst hn
  obtain ⟨T', X', e', st'⟩ := getS2 X hx hZ hown w via eT F (g := mkF m pc Ls st) rfl hd
  exact (k T' X' e').via st'
theorem o_new (X : Stand p l e R s m args below meth c T locs cells slots) (hx : p.tables.exec = Jvm.exec) (hZ : Z.Warmed39 s.vm) {own C : String} {index kk : Nat} (hown : s.vm.findClass own = some m.cls) (w : (Jvm.Cond.classLink own index C).before a0 Z = true) (wi : (Jvm.Cond.instantiable C kk).before a0 Z = true) (wz : (Jvm.Cond.initialized C).before a0 Z = true) (eT : T.heap = h)
    (hd : decode c.code pc = .ok (.new index, 3)) (hc : cells + 1 ≤ R.cells) (hs : slots + kk ≤ R.slots) (hn : pc + 3 = n)
    (k : ∀ T' h' a, Stand p l e R s m args below meth c T' locs (cells + 1) (slots + kk) → T'.heap = h' → a = h.size → Ext h h' → Exa Z h' a C → (∀ {O nm d : String} {ty : FieldType}, Laid Z a0 C O nm d → parseFieldDescriptor d = some ty → Fld Z h' a O nm d (defaultValue ty)) → Goes p e below s Q K N (T'.setTop (mkF m n Ls (.ref a :: st)))) : Goes p e below s Q K N (T.setTop (mkF m pc Ls st)) := by
  subst hn
  obtain ⟨T', h', X', e', E, A, D, -, st'⟩ := newO X hx hZ hown w wi wz eT (g := mkF m pc Ls st) rfl hd hc hs
  exact (k T' h' _ X' e' rfl E A D).via st'
theorem o_newarray (X : Stand p l e R s m args below meth c T locs cells slots) (hx : p.tables.exec = Jvm.exec) (hZ : Z.Warmed39 s.vm) {aty : ArrayType} (w : (Jvm.Cond.arrayClass (newarray.typeOf aty)).before a0 Z = true) (eT : T.heap = h) {z : Int32} (hd : decode c.code pc = .ok (.newarray aty, 2)) (hz : ¬ z < 0) (cap : Nat) (hcap : z.toNatClampNeg ≤ cap) (hb : cap * 8 ≤ 536870912) (hc : cells + 1 ≤ R.cells) (hs : slots + cap ≤ R.slots) (hn : pc + 2 = n)
    (k : ∀ T' h' a cA, Stand p l e R s m args below meth c T' locs (cells + 1) (slots + cap) → T'.heap = h' → a = h.size → Ext h h' → Arv Z h' a cA (newarray.typeOf aty) z [] (defaultValue (newarray.typeOf aty)) → Goes p e below s Q K N (T'.setTop (mkF m n Ls (.ref a :: rest)))) : Goes p e below s Q K N (T.setTop (mkF m pc Ls (.int z :: rest))) := by
  subst hn
  obtain ⟨T', h', cA, X', e', E, A, st'⟩ := newP X hx hZ w eT (g := mkF m pc Ls (.int z :: rest)) rfl hd rfl hz hcap hb hc hs
  exact (k T' h' _ cA X' e' rfl E (Arv.new A hz)).via st'
theorem o_arraylength (X : Stand p l e R s m args below meth c T locs cells slots) (hx : p.tables.exec = Jvm.exec) (hZ : Z.Warmed39 s.vm) (eT : T.heap = h) {a : Addr} {k : ClassId} {ty : FieldType} {z : Int32} {vs : List Value} {dv : Value} (V : Arv Z h a k ty z vs dv) (hd : decode c.code pc = .ok (.arraylength, 1)) (hn : pc + 1 = n) (g : Goes p e below s Q K N (T.setTop (mkF m n Ls (.int z :: rest)))) : Goes p e below s Q K N (T.setTop (mkF m pc Ls (.ref a :: rest))) := by
  subst hn
  obtain ⟨cl, A, -, S, M, -, -⟩ := V
  refine g.via fun t k => X.arraylength hx (by rw [eT]; exact A.1) (State.isArrayOf_alike hZ.alike A.2.1) (g := mkF m pc Ls (.ref a :: rest)) rfl rfl hd t ?_
  rw [len_of S M]; exact k
theorem o_iaload (X : Stand p l e R s m args below meth c T locs cells slots) (hx : p.tables.exec = Jvm.exec) (hZ : Z.Warmed39 s.vm) (eT : T.heap = h) {a : Addr} {k : ClassId} {z j : Int32} {vs : List Value} {dv v : Value} (V : Arv Z h a k .int z vs dv) (i : Nat) (hi : j.toNatClampNeg = i) (hj : ¬ j < 0 ∧ j < z) (hv : vs.getD i dv = v) (hd : decode c.code pc = .ok (.iaload, 1)) (hn : pc + 1 = n) (g : Goes p e below s Q K N (T.setTop (mkF m n Ls (v :: rest)))) : Goes p e below s Q K N (T.setTop (mkF m pc Ls (.int j :: .ref a :: rest))) := by
  subst hn hi
  obtain ⟨cl, A, -, S, M, H, -⟩ := V
  exact g.via fun t k => X.iaload hx (by rw [eT]; exact A.1) (State.isArrayOf_alike hZ.alike A.2.1) A.2.2 (inb_of S hj) (Has.at H (inb_of S hj) hv) (g := mkF m pc Ls (.int j :: .ref a :: rest)) rfl rfl hd t k
theorem o_laload (X : Stand p l e R s m args below meth c T locs cells slots) (hx : p.tables.exec = Jvm.exec) (hZ : Z.Warmed39 s.vm) (eT : T.heap = h) {a : Addr} {k : ClassId} {z j : Int32} {vs : List Value} {dv v : Value} (V : Arv Z h a k .long z vs dv) (i : Nat) (hi : j.toNatClampNeg = i) (hj : ¬ j < 0 ∧ j < z) (hv : vs.getD i dv = v) (hd : decode c.code pc = .ok (.laload, 1)) (hn : pc + 1 = n) (g : Goes p e below s Q K N (T.setTop (mkF m n Ls (v :: rest)))) : Goes p e below s Q K N (T.setTop (mkF m pc Ls (.int j :: .ref a :: rest))) := by
  subst hn hi
  obtain ⟨cl, A, -, S, M, H, -⟩ := V
  exact g.via fun t k => X.laload hx (by rw [eT]; exact A.1) (State.isArrayOf_alike hZ.alike A.2.1) A.2.2 (inb_of S hj) (Has.at H (inb_of S hj) hv) (g := mkF m pc Ls (.int j :: .ref a :: rest)) rfl rfl hd t k
theorem o_baload (X : Stand p l e R s m args below meth c T locs cells slots) (hx : p.tables.exec = Jvm.exec) (hZ : Z.Warmed39 s.vm) (eT : T.heap = h) {a : Addr} {k : ClassId} {z j : Int32} {vs : List Value} {dv v : Value} (V : Arv Z h a k .byte z vs dv) (i : Nat) (hi : j.toNatClampNeg = i) (hj : ¬ j < 0 ∧ j < z) (hv : vs.getD i dv = v) (hd : decode c.code pc = .ok (.baload, 1)) (hn : pc + 1 = n) (g : Goes p e below s Q K N (T.setTop (mkF m n Ls (v :: rest)))) : Goes p e below s Q K N (T.setTop (mkF m pc Ls (.int j :: .ref a :: rest))) := by
  subst hn hi
  obtain ⟨cl, A, -, S, M, H, -⟩ := V
  exact g.via fun t k => X.baloadBytes hx (by rw [eT]; exact A.1) (State.isArrayOf_alike hZ.alike A.2.1) A.2.2 (inb_of S hj) (Has.at H (inb_of S hj) hv) (g := mkF m pc Ls (.int j :: .ref a :: rest)) rfl rfl hd t k
theorem o_baloadZ (X : Stand p l e R s m args below meth c T locs cells slots) (hx : p.tables.exec = Jvm.exec) (hZ : Z.Warmed39 s.vm) (eT : T.heap = h) {a : Addr} {k : ClassId} {z j : Int32} {vs : List Value} {dv v : Value} (V : Arv Z h a k .boolean z vs dv) (i : Nat) (hi : j.toNatClampNeg = i) (hj : ¬ j < 0 ∧ j < z) (hv : vs.getD i dv = v) (hd : decode c.code pc = .ok (.baload, 1)) (hn : pc + 1 = n) (g : Goes p e below s Q K N (T.setTop (mkF m n Ls (v :: rest)))) : Goes p e below s Q K N (T.setTop (mkF m pc Ls (.int j :: .ref a :: rest))) := by
  subst hn hi
  obtain ⟨cl, A, -, S, M, H, -⟩ := V
  exact g.via fun t k => X.baloadBooleans hx (by rw [eT]; exact A.1) (State.isArrayOf_alike hZ.alike A.2.1) A.2.2 (inb_of S hj) (Has.at H (inb_of S hj) hv) (g := mkF m pc Ls (.int j :: .ref a :: rest)) rfl rfl hd t k
theorem o_aaload (X : Stand p l e R s m args below meth c T locs cells slots) (hx : p.tables.exec = Jvm.exec) (hZ : Z.Warmed39 s.vm) (eT : T.heap = h) {a : Addr} {k : ClassId} {ty : FieldType} {z j : Int32} {vs : List Value} {dv v : Value} (V : Arv Z h a k ty z vs dv) (hty : ty.isReference = true) (i : Nat) (hi : j.toNatClampNeg = i) (hj : ¬ j < 0 ∧ j < z) (hv : vs.getD i dv = v) (hd : decode c.code pc = .ok (.aaload, 1)) (hn : pc + 1 = n) (g : Goes p e below s Q K N (T.setTop (mkF m n Ls (v :: rest)))) : Goes p e below s Q K N (T.setTop (mkF m pc Ls (.int j :: .ref a :: rest))) := by
  subst hn hi
  obtain ⟨cl, A, -, S, M, H, -⟩ := V
  exact g.via fun t k => X.aaload hx (by rw [eT]; exact A.1) (State.isArrayOf_alike hZ.alike A.2.1) hty A.2.2 (inb_of S hj) (Has.at H (inb_of S hj) hv) (g := mkF m pc Ls (.int j :: .ref a :: rest)) rfl rfl hd t k
theorem o_iastore (X : Stand p l e R s m args below meth c T locs cells slots) (hx : p.tables.exec = Jvm.exec) (hZ : Z.Warmed39 s.vm) (eT : T.heap = h) {a : Addr} {k : ClassId} {z j : Int32} {x : Int32} {vs vs' : List Value} {dv w : Value} (V : Arv Z h a k .int z vs dv) (i : Nat) (hi : j.toNatClampNeg = i) (hj : ¬ j < 0 ∧ j < z) (hlen : i < vs.length) (hw : (.int x) = w) (hvs : vs.set i w = vs') (hd : decode c.code pc = .ok (.iastore, 1)) (hn : pc + 1 = n)
    (g : ∀ T' h', Stand p l e R s m args below meth c T' (locs ++ [⟨a, j.toNatClampNeg⟩]) cells slots → T'.heap = h' → Wr h h' a j.toNatClampNeg w → Arv Z h' a k .int z vs' dv → Goes p e below s Q K N (T'.setTop (mkF m n Ls rest))) : Goes p e below s Q K N (T.setTop (mkF m pc Ls (.int x :: .int j :: .ref a :: rest))) := by
  subst hn hvs hw
  obtain ⟨cl, A, q1, S, M, H, G⟩ := V
  obtain ⟨T', h', X', e', W, st'⟩ := stI X hx hZ eT A (j := j) (inb_of S hj) (g := mkF m pc Ls (.int x :: .int j :: .ref a :: rest)) rfl rfl hd
  exact (g T' h' X' e' W (Arv.set A q1 S M H G rfl W i hi hlen)).via st'
theorem o_lastore (X : Stand p l e R s m args below meth c T locs cells slots) (hx : p.tables.exec = Jvm.exec) (hZ : Z.Warmed39 s.vm) (eT : T.heap = h) {a : Addr} {k : ClassId} {z j : Int32} {x : Int64} {vs vs' : List Value} {dv w : Value} (V : Arv Z h a k .long z vs dv) (i : Nat) (hi : j.toNatClampNeg = i) (hj : ¬ j < 0 ∧ j < z) (hlen : i < vs.length) (hw : (.long x) = w) (hvs : vs.set i w = vs') (hd : decode c.code pc = .ok (.lastore, 1)) (hn : pc + 1 = n)
    (g : ∀ T' h', Stand p l e R s m args below meth c T' (locs ++ [⟨a, j.toNatClampNeg⟩]) cells slots → T'.heap = h' → Wr h h' a j.toNatClampNeg w → Arv Z h' a k .long z vs' dv → Goes p e below s Q K N (T'.setTop (mkF m n Ls rest))) : Goes p e below s Q K N (T.setTop (mkF m pc Ls (.long x :: .int j :: .ref a :: rest))) := by
  subst hn hvs hw
  obtain ⟨cl, A, q1, S, M, H, G⟩ := V
  obtain ⟨T', h', X', e', W, st'⟩ := stJ X hx hZ eT A (j := j) (inb_of S hj) (g := mkF m pc Ls (.long x :: .int j :: .ref a :: rest)) rfl rfl hd
  exact (g T' h' X' e' W (Arv.set A q1 S M H G rfl W i hi hlen)).via st'
theorem o_bastore (X : Stand p l e R s m args below meth c T locs cells slots) (hx : p.tables.exec = Jvm.exec) (hZ : Z.Warmed39 s.vm) (eT : T.heap = h) {a : Addr} {k : ClassId} {z j : Int32} {x : Int32} {vs vs' : List Value} {dv w : Value} (V : Arv Z h a k .byte z vs dv) (i : Nat) (hi : j.toNatClampNeg = i) (hj : ¬ j < 0 ∧ j < z) (hlen : i < vs.length) (hw : (.int (nar .byte x)) = w) (hvs : vs.set i w = vs') (hd : decode c.code pc = .ok (.bastore, 1)) (hn : pc + 1 = n)
    (g : ∀ T' h', Stand p l e R s m args below meth c T' (locs ++ [⟨a, j.toNatClampNeg⟩]) cells slots → T'.heap = h' → Wr h h' a j.toNatClampNeg w → Arv Z h' a k .byte z vs' dv → Goes p e below s Q K N (T'.setTop (mkF m n Ls rest))) : Goes p e below s Q K N (T.setTop (mkF m pc Ls (.int x :: .int j :: .ref a :: rest))) := by
  subst hn hvs hw
  obtain ⟨cl, A, q1, S, M, H, G⟩ := V
  obtain ⟨T', h', X', e', W, st'⟩ := stB X hx hZ eT A (j := j) (inb_of S hj) (g := mkF m pc Ls (.int x :: .int j :: .ref a :: rest)) rfl rfl hd
  exact (g T' h' X' e' W (Arv.set A q1 S M H G (fits_nar_byte x) W i hi hlen)).via st'
theorem o_bastoreZ (X : Stand p l e R s m args below meth c T locs cells slots) (hx : p.tables.exec = Jvm.exec) (hZ : Z.Warmed39 s.vm) (eT : T.heap = h) {a : Addr} {k : ClassId} {z j : Int32} {x : Int32} {vs vs' : List Value} {dv w : Value} (V : Arv Z h a k .boolean z vs dv) (i : Nat) (hi : j.toNatClampNeg = i) (hj : ¬ j < 0 ∧ j < z) (hlen : i < vs.length) (hw : (.int (nar .boolean x)) = w) (hvs : vs.set i w = vs') (hd : decode c.code pc = .ok (.bastore, 1)) (hn : pc + 1 = n)
    (g : ∀ T' h', Stand p l e R s m args below meth c T' (locs ++ [⟨a, j.toNatClampNeg⟩]) cells slots → T'.heap = h' → Wr h h' a j.toNatClampNeg w → Arv Z h' a k .boolean z vs' dv → Goes p e below s Q K N (T'.setTop (mkF m n Ls rest))) : Goes p e below s Q K N (T.setTop (mkF m pc Ls (.int x :: .int j :: .ref a :: rest))) := by
  subst hn hvs hw
  obtain ⟨cl, A, q1, S, M, H, G⟩ := V
  obtain ⟨T', h', X', e', W, st'⟩ := stZ X hx hZ eT A (j := j) (inb_of S hj) (g := mkF m pc Ls (.int x :: .int j :: .ref a :: rest)) rfl rfl hd
  exact (g T' h' X' e' W (Arv.set A q1 S M H G (fits_nar_bool x) W i hi hlen)).via st'

/-! calls -/
theorem o_initO (X : Stand p l e R s m args below meth c T locs cells slots) (hx : p.tables.exec = Jvm.exec) (hZ : Z.Warmed39 s.vm) {own : String} {idx : Nat} (hown : s.vm.findClass own = some m.cls) (w1 : (Jvm.Cond.methodLink own idx Lib.objectInit).before a0 Z = true) (w2 : (Jvm.Cond.instanceMethod Lib.objectInit).before a0 Z = true) (w3 : (Jvm.Cond.code Lib.objectInit ⟨#[0xb1]⟩ 1 none).before a0 Z = true) (eT : T.heap = h) (hsize : Ls.size = c.maxLocals) {a : Addr} (hd : decode c.code pc = .ok (.invokespecial idx, 3)) (hf : 1 ≤ R.frames) (W : Nat) (hW : (rest.map fun v => v.category).sum ≤ W) (hl : W + 12 ≤ R.locals) (hn : pc + 3 = n)
    (k : ∀ T', Stand p l e R s m args below meth c T' locs cells slots → T'.heap = h → Goes p e below s Q K N (T'.setTop (mkF m n Ls rest))) : Goes p e below s Q K N (T.setTop (mkF m pc Ls (.ref a :: rest))) := by
  subst hn
  obtain ⟨T', X', e', st'⟩ := initO X hx hZ hown w1 w2 w3 eT (g := mkF m pc Ls (.ref a :: rest)) rfl hsize rfl hd hf (W := W) (by show 2 * 0 + _ ≤ _; omega) hl
  exact (k T' X' e').via st'
theorem o_callS (X : Stand p l e R s m args below meth c T locs cells slots) (hx : p.tables.exec = Jvm.exec) (hZ : Z.Warmed39 s.vm) {own : String} {index : Nat} {y : MethodName} {bytes : ByteArray} {maxL : Nat} {ret : Option FieldType} {rm : Room} (hown : s.vm.findClass own = some m.cls) (w1 : (Jvm.Cond.methodLink own index y).before a0 Z = true) (w2 : (Jvm.Cond.static y).before a0 Z = true) (w3 : (Jvm.Cond.initialized y.cls).before a0 Z = true) (w4 : (Jvm.Cond.code y bytes maxL ret).before a0 Z = true) (hy : y.cls ≠ "java/lang/invoke/MethodHandle" ∧ y.cls ≠ "java/lang/invoke/VarHandle") (eT : T.heap = h)
    {argsL rest : List Value} {Q' : Option Value → Heap → List Loc → Prop} (hM : Does l Z y bytes maxL ret [] rm argsL.toArray h Q') (W : Nat) (hf : rm.frames + 1 ≤ R.frames) (hl : W + (maxL + 11) + rm.locals ≤ R.locals) (hc : cells + rm.cells ≤ R.cells) (hs : slots + rm.slots ≤ R.slots) (hsize : Ls.size = c.maxLocals) (hlen : ∀ sig, parseMethodDescriptor y.desc = some sig → argsL.length = sig.parameters.length) (hst : st = argsL.reverse ++ rest) (hW : (rest.map fun v => v.category).sum ≤ W) (hd : decode c.code pc = .ok (.invokestatic index, 3)) (hn : pc + 3 = n)
    (k : ∀ v T' L', Stand p l e R s m args below meth c T' (locs ++ L') (cells + rm.cells) (slots + rm.slots) → Q' v T'.heap L' → Goes p e below s Q K N (T'.setTop (mkF m n Ls (v.toList ++ rest)))) : Goes p e below s Q K N (T.setTop (mkF m pc Ls st)) := by
  subst hn
  obtain ⟨v, _, ⟨T', L, kk, nn⟩, -, X', ⟨Lc, hQ, l', y', z'⟩, st'⟩ := Jvm.LawKit.callS X hx (y := y) hown (mvT hZ w1) (mvT hZ w2) (mvT hZ w3) (mvT hZ w4) hy (backOf (W := W) hM hZ w4 w3 hf hl) (g := mkF m pc Ls st) rfl hsize (argsL := argsL) (rest := rest) hlen hst (by show 2 * 0 + _ ≤ _; omega) hd (fun _ _ => ⟨rfl, eT, hc, hs⟩)
  dsimp only [Pt.U, Pt.locs, Pt.cells, Pt.slots] at X' l' y' z' st' hQ
  subst l' y' z'
  exact (k v T' Lc X' hQ).via st'
theorem o_callN (X : Stand p l e R s m args below meth c T locs cells slots) (hx : p.tables.exec = Jvm.exec) (hZ : Z.Warmed39 s.vm) {own : String} {index : Nat} {y : MethodName} {bytes : ByteArray} {maxL : Nat} {rm : Room} (hy1 : y.name = "<init>") (hown : s.vm.findClass own = some m.cls) (w1 : (Jvm.Cond.methodLink own index y).before a0 Z = true) (w2 : (Jvm.Cond.instanceMethod y).before a0 Z = true) (w3 : (Jvm.Cond.initialized y.cls).before a0 Z = true) (w4 : (Jvm.Cond.code y bytes maxL none).before a0 Z = true) (hy : y.cls ≠ "java/lang/invoke/MethodHandle" ∧ y.cls ≠ "java/lang/invoke/VarHandle") (eT : T.heap = h)
    {a : Addr} {argsL rest : List Value} {Q' : Option Value → Heap → List Loc → Prop} (hM : Does l Z y bytes maxL none [] rm (.ref a :: argsL).toArray h Q') (W : Nat) (hf : rm.frames + 1 ≤ R.frames) (hl : W + (maxL + 11) + rm.locals ≤ R.locals) (hc : cells + rm.cells ≤ R.cells) (hs : slots + rm.slots ≤ R.slots) (hsize : Ls.size = c.maxLocals) (hlen : ∀ sig, parseMethodDescriptor y.desc = some sig → argsL.length = sig.parameters.length) (hst : st = argsL.reverse ++ .ref a :: rest) (hW : (rest.map fun v => v.category).sum ≤ W) (hd : decode c.code pc = .ok (.invokespecial index, 3)) (hn : pc + 3 = n)
    (k : ∀ v T' L', Stand p l e R s m args below meth c T' (locs ++ L') (cells + rm.cells) (slots + rm.slots) → Q' v T'.heap L' → Goes p e below s Q K N (T'.setTop (mkF m n Ls (v.toList ++ rest)))) : Goes p e below s Q K N (T.setTop (mkF m pc Ls st)) := by
  subst hn
  obtain ⟨v, _, ⟨T', L, kk, nn⟩, -, X', ⟨Lc, hQ, l', y', z'⟩, st'⟩ := X.specialBack hx (y := y) hy1 hown (mvT hZ w1) (mvT hZ w2) (mvT hZ w4) hy (backOf (W := W) hM hZ w4 w3 hf hl) (g := mkF m pc Ls st) rfl hsize (Steps.refl _) (a := a) (argsL := argsL) (rest := rest) hlen hst (by show 2 * 0 + _ ≤ _; omega) hd (fun _ _ => ⟨rfl, eT, hc, hs⟩)
  dsimp only [Pt.U, Pt.locs, Pt.cells, Pt.slots] at X' l' y' z' st' hQ
  subst l' y' z'
  exact (k v T' Lc X' hQ).via fun t q => st'.trans q
theorem o_callV (X : Stand p l e R s m args below meth c T locs cells slots) (hx : p.tables.exec = Jvm.exec) (hZ : Z.Warmed39 s.vm) {own C : String} {index : Nat} {y : MethodName} {bytes : ByteArray} {maxL : Nat} {ret : Option FieldType} {rm : Room} (hown : s.vm.findClass own = some m.cls) (w1 : (Jvm.Cond.methodLink own index y).before a0 Z = true) (w2 : (Jvm.Cond.declares y).before a0 Z = true) (w5 : (Jvm.Cond.selects C y y).before a0 Z = true) (w6 : (Jvm.Cond.instanceMethod y).before a0 Z = true) (w3 : (Jvm.Cond.initialized y.cls).before a0 Z = true) (w4 : (Jvm.Cond.code y bytes maxL ret).before a0 Z = true) (hy : y.cls ≠ "java/lang/invoke/MethodHandle" ∧ y.cls ≠ "java/lang/invoke/VarHandle") (eT : T.heap = h)
    {a : Addr} (E : Exa Z h a C) {argsL rest : List Value} {Q' : Option Value → Heap → List Loc → Prop} (hM : Does l Z y bytes maxL ret [] rm (.ref a :: argsL).toArray h Q') (W : Nat) (hf : rm.frames + 1 ≤ R.frames) (hl : W + (maxL + 11) + rm.locals ≤ R.locals) (hc : cells + rm.cells ≤ R.cells) (hs : slots + rm.slots ≤ R.slots) (hsize : Ls.size = c.maxLocals) (hlen : ∀ sig, parseMethodDescriptor y.desc = some sig → argsL.length = sig.parameters.length) (hst : st = argsL.reverse ++ .ref a :: rest) (hW : (rest.map fun v => v.category).sum ≤ W) (hd : decode c.code pc = .ok (.invokevirtual index, 3)) (hn : pc + 3 = n)
    (k : ∀ v T' L', Stand p l e R s m args below meth c T' (locs ++ L') (cells + rm.cells) (slots + rm.slots) → Q' v T'.heap L' → Goes p e below s Q K N (T'.setTop (mkF m n Ls (v.toList ++ rest)))) : Goes p e below s Q K N (T.setTop (mkF m pc Ls st)) := by
  subst hn
  obtain ⟨cq, kq, qa, qb, qc⟩ := isOf hZ eT E
  obtain ⟨v, _, ⟨T', L, kk, nn⟩, -, X', ⟨Lc, hQ, l', y', z'⟩, st'⟩ := X.virtualBack hx (y := y) (z := y) hown (mvT hZ w1) (mvT hZ w2) (notFace_of_selects (args := #[]) (mvT hZ w5)) (mvT hZ w5) (mvT hZ w6) hy (backOf (W := W) hM hZ w4 w3 hf hl) qa qc (g := mkF m pc Ls st) rfl hsize (Steps.refl _) (argsL := argsL) (rest := rest) hlen hst (by show 2 * 0 + _ ≤ _; omega) hd (fun _ _ => ⟨rfl, eT, hc, hs⟩)
  dsimp only [Pt.U, Pt.locs, Pt.cells, Pt.slots] at X' l' y' z' st' hQ
  subst l' y' z'
  exact (k v T' Lc X' hQ).via fun t q => st'.trans q
/-- a private method is the one that is selected -/
theorem o_selpriv {y : MethodName} {kk : Nat} (hy : y.cls ≠ "java/lang/invoke/MethodHandle" ∧ y.cls ≠ "java/lang/invoke/VarHandle") (hins : (Jvm.Cond.instantiable y.cls kk).before args s = true) (hpriv : (Jvm.Cond.privateMethod y).before args s = true) (hinst : (Jvm.Cond.instanceMethod y).before args s = true) : (Jvm.Cond.selects y.cls y y).before args s = true := by
  obtain ⟨c, k, hc, hk, -, hniab, -, -⟩ := Cond.instantiable_spec hins
  have hni : k.isInterface = false := (Bool.or_eq_false_iff.mp hniab).1
  obtain ⟨mk, methM, hnamed, hmethM, -, -⟩ := Cond.instanceMethod_spec hinst
  have hfound : s.methodFound? y.cls y.name y.desc = some mk := State.methodFound?_of_named hnamed hy
  have hcls : mk.cls = c := Option.some.inj ((findClass_of_methodNamed hnamed).symm.trans hc)
  have hsel : selectMethod {} s.vm c mk = .method mk := selectMethod_private hmethM (Cond.privateMethod_at hpriv mk methM hnamed hmethM)
  simp only [Cond.before, Cond.holds, Cond.value, hc, hfound, hnamed, hsel, hcls, hk]
  simp; exact hni
theorem o_callP (X : Stand p l e R s m args below meth c T locs cells slots) (hx : p.tables.exec = Jvm.exec) (hZ : Z.Warmed39 s.vm) {own C : String} {index kk : Nat} {y : MethodName} {bytes : ByteArray} {maxL : Nat} {ret : Option FieldType} {rm : Room} (hown : s.vm.findClass own = some m.cls) (w1 : (Jvm.Cond.methodLink own index y).before a0 Z = true) (w6 : (Jvm.Cond.instanceMethod y).before a0 Z = true) (w5 : (Jvm.Cond.privateMethod y).before a0 Z = true) (wi : (Jvm.Cond.instantiable y.cls kk).before a0 Z = true) (w3 : (Jvm.Cond.initialized y.cls).before a0 Z = true) (w4 : (Jvm.Cond.code y bytes maxL ret).before a0 Z = true) (hy : y.cls ≠ "java/lang/invoke/MethodHandle" ∧ y.cls ≠ "java/lang/invoke/VarHandle") (eT : T.heap = h)
    {a : Addr} (E : Exa Z h a C) {argsL rest : List Value} {Q' : Option Value → Heap → List Loc → Prop} (hM : Does l Z y bytes maxL ret [] rm (.ref a :: argsL).toArray h Q') (W : Nat) (hf : rm.frames + 1 ≤ R.frames) (hl : W + (maxL + 11) + rm.locals ≤ R.locals) (hc : cells + rm.cells ≤ R.cells) (hs : slots + rm.slots ≤ R.slots) (hsize : Ls.size = c.maxLocals) (hlen : ∀ sig, parseMethodDescriptor y.desc = some sig → argsL.length = sig.parameters.length) (hst : st = argsL.reverse ++ .ref a :: rest) (hW : (rest.map fun v => v.category).sum ≤ W) (hd : decode c.code pc = .ok (.invokevirtual index, 3)) (hn : pc + 3 = n)
    (k : ∀ v T' L', Stand p l e R s m args below meth c T' (locs ++ L') (cells + rm.cells) (slots + rm.slots) → Q' v T'.heap L' → Goes p e below s Q K N (T'.setTop (mkF m n Ls (v.toList ++ rest)))) : Goes p e below s Q K N (T.setTop (mkF m pc Ls st)) := by
  subst hn
  obtain ⟨cl, hcl, hob⟩ := E.cell
  obtain ⟨v, _, ⟨T', L, kk, nn⟩, -, X', ⟨Lc, hQ, l', y', z'⟩, st'⟩ := X.privateBack hx (y := y) hown (mvT hZ w1) (mvT hZ w6) (o_selpriv hy (mvT hZ wi) (mvP hZ w5) (mvT hZ w6)) (Cond.privateMethod_at (mvP hZ w5 (args := #[]))) (mvT hZ w4) hy (backOf (W := W) hM hZ w4 w3 hf hl) (g := mkF m pc Ls st) rfl hsize (Steps.refl _) (a := a) (by rw [eT]; exact hcl) hob (argsL := argsL) (rest := rest) hlen hst (by show 2 * 0 + _ ≤ _; omega) hd (fun _ _ => ⟨rfl, eT, hc, hs⟩)
  dsimp only [Pt.U, Pt.locs, Pt.cells, Pt.slots] at X' l' y' z' st' hQ
  subst l' y' z'
  exact (k v T' Lc X' hQ).via fun t q => st'.trans q
/-! returns -/
theorem o_retW (X : Stand p l e R s m args below meth c T locs cells slots) (hx : p.tables.exec = Jvm.exec) {t : FieldType} {w : Value} {i : Instr} (hret : meth.sig.returnType = some t) (hlk : meth.locks = false) (hnw : narrow t w = w)
    (hi : (i = .ireturn ∧ (t = .int ∨ t = .boolean ∨ t = .byte ∨ t = .char ∨ t = .short) ∧ ∃ z, w = .int z) ∨ (i = .lreturn ∧ t = .long ∧ ∃ z, w = .long z) ∨ (i = .dreturn ∧ t = .double ∧ ∃ z, w = .double z) ∨ (i = .freturn ∧ t = .float ∧ ∃ z, w = .float z) ∨ (i = .areturn ∧ t.isReference = true ∧ w.isRef = true))
    (hd : decode c.code pc = .ok (i, 1)) (hc : cells ≤ K) (hs : slots ≤ N) (eT : T.heap = h) (hQ : Q (some w) h locs) : Goes p e below s Q K N (T.setTop (mkF m pc Ls (w :: rest))) := by
  subst eT
  obtain ⟨fs, hr, hrun, hended, hW, hsame⟩ := X.leave (v := some w) (fun q => by rw [hret] at q; cases q) hlk
  exact ⟨_, _, retOut X hx hret hnw hi hd hr, hrun, hended, _, _, rfl, hQ, ⟨_, rfl⟩, hW, hsame.mono hc hs⟩
theorem o_ireturn (X : Stand p l e R s m args below meth c T locs cells slots) (hx : p.tables.exec = Jvm.exec) {x : Int32} (hret : meth.sig.returnType = some .int) (hlk : meth.locks = false) (hd : decode c.code pc = .ok (.ireturn, 1)) (hc : cells ≤ K) (hs : slots ≤ N) (eT : T.heap = h) (hQ : Q (some (.int x)) h locs) : Goes p e below s Q K N (T.setTop (mkF m pc Ls (.int x :: rest))) := o_retW X hx hret hlk rfl (Or.inl ⟨rfl, Or.inl rfl, x, rfl⟩) hd hc hs eT hQ
theorem o_lreturn (X : Stand p l e R s m args below meth c T locs cells slots) (hx : p.tables.exec = Jvm.exec) {x : Int64} (hret : meth.sig.returnType = some .long) (hlk : meth.locks = false) (hd : decode c.code pc = .ok (.lreturn, 1)) (hc : cells ≤ K) (hs : slots ≤ N) (eT : T.heap = h) (hQ : Q (some (.long x)) h locs) : Goes p e below s Q K N (T.setTop (mkF m pc Ls (.long x :: rest))) := o_retW X hx hret hlk rfl (Or.inr (Or.inl ⟨rfl, rfl, x, rfl⟩)) hd hc hs eT hQ
theorem o_areturn (X : Stand p l e R s m args below meth c T locs cells slots) (hx : p.tables.exec = Jvm.exec) {t : FieldType} {w : Value} (hret : meth.sig.returnType = some t) (hlk : meth.locks = false) (ht : t.isReference = true) (hw : w.isRef = true) (hd : decode c.code pc = .ok (.areturn, 1)) (hc : cells ≤ K) (hs : slots ≤ N) (eT : T.heap = h) (hQ : Q (some w) h locs) : Goes p e below s Q K N (T.setTop (mkF m pc Ls (w :: rest))) := o_retW X hx hret hlk (by cases t <;> first | rfl | cases ht) (Or.inr (Or.inr (Or.inr (Or.inr ⟨rfl, ht, hw⟩)))) hd hc hs eT hQ
/-- a boolean, byte, char or short: narrowed -/
theorem o_nreturn (X : Stand p l e R s m args below meth c T locs cells slots) (hx : p.tables.exec = Jvm.exec) {t : FieldType} {x : Int32} (hret : meth.sig.returnType = some t) (hlk : meth.locks = false) (ht : t = .boolean ∨ t = .byte ∨ t = .char ∨ t = .short) (hd : decode c.code pc = .ok (.ireturn, 1)) (hc : cells ≤ K) (hs : slots ≤ N) (eT : T.heap = h) (hQ : Q (some (.int (nar t x))) h locs) : Goes p e below s Q K N (T.setTop (mkF m pc Ls (.int x :: rest))) := by
  subst eT
  obtain ⟨fs, hr, hrun, hended, hW, hsame⟩ := X.leave (v := some (.int (nar t x))) (fun q => by rw [hret] at q; cases q) hlk
  exact ⟨_, _, retN X hx hret ht hd hr, hrun, hended, _, _, rfl, hQ, ⟨_, rfl⟩, hW, hsame.mono hc hs⟩
theorem o_return (X : Stand p l e R s m args below meth c T locs cells slots) (hx : p.tables.exec = Jvm.exec) (hret : meth.sig.returnType = none) (hlk : meth.locks = false) (hd : decode c.code pc = .ok (.return_, 1)) (hc : cells ≤ K) (hs : slots ≤ N) (eT : T.heap = h) (hQ : Q none h locs) : Goes p e below s Q K N (T.setTop (mkF m pc Ls [])) := by
  subst eT
  obtain ⟨fs, hr, hrun, hended, hW, hsame⟩ := X.leave (v := none) (fun _ => rfl) hlk
  exact ⟨_, _, X.returnOut hx hret hd hr, hrun, hended, _, _, rfl, hQ, ⟨_, rfl⟩, hW, hsame.mono hc hs⟩
/-- what a call that writes nothing promises -/
def Pur (h0 : Heap) (w : Value) (v : Option Value) (h : Heap) (L : List Loc) : Prop := v = some w ∧ h = h0 ∧ L = []
end Layer

theorem o_nz1 : nar .boolean (1 : Int32) = 1 := by decide
theorem o_nz0 : nar .boolean (0 : Int32) = 0 := by decide
theorem o_nar8 (x : Int32) : nar .byte x.toInt8.toInt32 = x.toInt8.toInt32 := by simp [nar]

def o_zz (p : Int64) : Int64 := (p <<< (1 : Int64)) ^^^ (p >>> (63 : Int64))
def o_sh (z : Int64) : Int64 := (z.toUInt64 >>> (7 : UInt64)).toInt64
def o_mb (z : Int64) : Int32 := ((z &&& (127 : Int64)) ||| (128 : Int64)).toInt32.toInt8.toInt32
def o_lb (z : Int64) : Int32 := z.toInt32.toInt8.toInt32
def o_enc : Nat → Int64 → List Int32
  | 0, z => [o_lb z]
  | f + 1, z => if z &&& (-128 : Int64) = 0 then [o_lb z] else o_mb z :: o_enc f (o_sh z)
def o_un (z : Int64) : Int64 := (z.toUInt64 >>> (1 : UInt64)).toInt64 ^^^ (-(z &&& (1 : Int64)))
theorem o_enclen (f : Nat) (z : Int64) : 1 ≤ (o_enc f z).length ∧ (o_enc f z).length ≤ f + 1 := by
  induction f generalizing z with
  | zero => simp [o_enc]
  | succ f ih =>
    unfold o_enc
    split
    · simp
    · have := ih (o_sh z)
      simp only [List.length_cons]
      omega
theorem o_tn {n : Nat} (h : n < 4096) : (Int32.ofNat n).toNatClampNeg = n := by
  rw [Int32.toNatClampNeg, Int32.toInt_ofNat_of_lt (by omega)]; rfl
theorem o_rg {n : Nat} (h : n < 4096) : ¬ (Int32.ofNat n) < 0 ∧ (Int32.ofNat n) < 4096 := by
  have e : (Int32.ofNat n).toInt = n := Int32.toInt_ofNat_of_lt (by omega)
  constructor
  · rw [Int32.lt_iff_toInt_lt, e, show (0 : Int32).toInt = 0 from rfl]; omega
  · rw [Int32.lt_iff_toInt_lt, e, show (4096 : Int32).toInt = 4096 from rfl]; omega
theorem o_suc (n : Nat) : Int32.ofNat n + 1 = Int32.ofNat (n + 1) := (Int32.ofNat_add n 1).symm
theorem o_set (ws L : List Int32) (b : Int32) (k : Nat) (hk : L.length = k) : ((ws ++ L).map Value.int ++ List.replicate 1 (Value.int 0)).set (ws.length + k) (.int b) = (ws ++ (L ++ [b])).map Value.int := by
  subst hk
  rw [List.set_append_right _ _ (by simp)]
  simp
theorem o_fit10 {n : Nat} (h : n ≤ 20) : ¬ (4096 : Int32) < Int32.ofNat n + 10 := by
  have e : (Int32.ofNat n).toInt = n := Int32.toInt_ofNat_of_lt (by omega)
  have g := XT.add32 (x := Int32.ofNat n) (y := 10) ⟨by rw [e, show (10 : Int32).toInt = 10 from rfl]; omega, by rw [e, show (10 : Int32).toInt = 10 from rfl]; omega⟩
  rw [Int32.lt_iff_toInt_lt, g, e, show (10 : Int32).toInt = 10 from rfl, show (4096 : Int32).toInt = 4096 from rfl]
  omega
theorem o_ok10 {n : Nat} (h : n ≤ 20) : ¬ ((Int32.ofNat n ^^^ (Int32.ofNat n + 10)) &&& (10 ^^^ (Int32.ofNat n + 10))) < 0 := by
  have e : (Int32.ofNat n).toInt = n := Int32.toInt_ofNat_of_lt (by omega)
  exact XT.addOk32 ⟨by rw [e, show (10 : Int32).toInt = 10 from rfl]; omega, by rw [e, show (10 : Int32).toInt = 10 from rfl]; omega⟩

theorem o_nth (pre post L E T : List Int32) (b : Int32) (k : Nat) (hk : L.length = k) (h : E = L ++ b :: T) : ((pre ++ (E ++ post)).map Value.int).getD (pre.length + k) (.int 0) = .int b := by
  subst hk h
  simp [List.getD_eq_getElem?_getD, List.getElem?_append_right]
theorem o_r0 (z : Int64) : (0 : Int64).toInt = z.toInt % 18446744073709551616 % 1 := by
  rw [show (0 : Int64).toInt = 0 from rfl]; omega
theorem o_and_split (x m k n : Int64) (h1 : m &&& k = 0) (h2 : m ||| k = n) : (x &&& m) + (x &&& k) = x &&& n := by
  subst h2
  apply Int64.toBitVec_inj.mp
  show (x.toBitVec &&& m.toBitVec) + (x.toBitVec &&& k.toBitVec) = x.toBitVec &&& (m.toBitVec ||| k.toBitVec)
  have hb : m.toBitVec &&& k.toBitVec = 0#64 := congrArg Int64.toBitVec h1
  have hz : (x.toBitVec &&& m.toBitVec) &&& (x.toBitVec &&& k.toBitVec) = 0#64 := by
    apply BitVec.eq_of_getLsbD_eq
    intro i hi
    have := congrArg (fun b => BitVec.getLsbD b i) hb
    simp only [BitVec.getLsbD_and] at this ⊢
    cases h : x.toBitVec.getLsbD i <;> simp_all
  rw [BitVec.add_eq_or_of_and_eq_zero _ _ hz, BitVec.and_or_distrib_left]
theorem o_and_split32 (x m k n : Int32) (h1 : m &&& k = 0) (h2 : m ||| k = n) : (x &&& m) + (x &&& k) = x &&& n := by
  subst h2
  apply Int32.toBitVec_inj.mp
  show (x.toBitVec &&& m.toBitVec) + (x.toBitVec &&& k.toBitVec) = x.toBitVec &&& (m.toBitVec ||| k.toBitVec)
  have hb : m.toBitVec &&& k.toBitVec = 0#32 := congrArg Int32.toBitVec h1
  have hz : (x.toBitVec &&& m.toBitVec) &&& (x.toBitVec &&& k.toBitVec) = 0#32 := by
    apply BitVec.eq_of_getLsbD_eq
    intro i hi
    have := congrArg (fun b => BitVec.getLsbD b i) hb
    simp only [BitVec.getLsbD_and] at this ⊢
    cases h : x.toBitVec.getLsbD i <;> simp_all
  rw [BitVec.add_eq_or_of_and_eq_zero _ _ hz, BitVec.and_or_distrib_left]
theorem o_and_all (x : Int64) : x &&& (-1 : Int64) = x := by
  apply Int64.toBitVec_inj.mp
  show x.toBitVec &&& (-1 : Int64).toBitVec = x.toBitVec
  rw [show (-1 : Int64).toBitVec = BitVec.allOnes 64 by decide]
  exact BitVec.and_allOnes
theorem o_neg128 (z : Int64) : (z &&& (-128 : Int64)).toInt = z.toInt - z.toInt % 128 := by
  have a := o_and_split z (-128) 127 (-1) (by decide) (by decide)
  rw [o_and_all] at a
  have b : (z &&& (127 : Int64)).toInt = z.toInt % (2 ^ 7 : Nat) := c_maskL z 127 7 (by decide) (by decide)
  have d := c_ladd (z &&& (-128 : Int64)) (z &&& (127 : Int64))
  rw [a] at d
  have r1 := Int64.le_toInt z; have r2 := Int64.toInt_lt z
  have r3 := Int64.le_toInt (z &&& (-128 : Int64)); have r4 := Int64.toInt_lt (z &&& (-128 : Int64))
  omega
theorem o_shv (z : Int64) : (o_sh z).toInt = (z.toInt % 18446744073709551616) / 128 := by
  have h : (o_sh z).toInt = (z.toInt % 18446744073709551616) / (2 ^ 7 : Nat) := c_lushr z 7 7 (by decide) (by decide)
  omega
theorem o_last (p : Int64) : o_sh (o_sh (o_sh (o_sh (o_sh (o_sh (o_sh (o_sh (o_sh (o_zz p))))))))) &&& (-128 : Int64) = 0 := by
  generalize o_zz p = z
  have k : ∀ w : Int64, 0 ≤ w.toInt → (o_sh w).toInt = w.toInt / 128 := fun w h => by
    have := o_shv w; have r2 := Int64.toInt_lt w
    generalize w.toInt = W at *; omega
  have h1 : 0 ≤ (o_sh z).toInt ∧ (o_sh z).toInt < 2 ^ 57 := by
    have := o_shv z; generalize z.toInt = W at *; omega
  generalize o_sh z = z1 at *
  have st : ∀ (w : Int64) (B : Int), 0 ≤ w.toInt ∧ w.toInt < 128 * B → 0 ≤ (o_sh w).toInt ∧ (o_sh w).toInt < B := fun w B h => by
    have := k w h.1; generalize w.toInt = W at *; omega
  have h2 := st _ (2 ^ 50) h1
  have h3 := st _ (2 ^ 43) h2
  have h4 := st _ (2 ^ 36) h3
  have h5 := st _ (2 ^ 29) h4
  have h6 := st _ (2 ^ 22) h5
  have h7 := st _ (2 ^ 15) h6
  have h8 := st _ (2 ^ 8) h7
  have h9 := st _ 2 ⟨h8.1, h8.2⟩
  generalize o_sh (o_sh (o_sh (o_sh (o_sh (o_sh (o_sh (o_sh z1))))))) = y at *
  have a := o_neg128 y
  apply Int64.toInt_inj.mp
  rw [a, show (0 : Int64).toInt = 0 from rfl]
  generalize y.toInt = Y at *
  omega
theorem o_byte (z w : Int64) (h : (w.toInt - z.toInt) % 128 = 0) : ((w.toInt32.toInt8.toInt32).toInt64 &&& (127 : Int64)).toInt = z.toInt % 128 := by
  have a : ((w.toInt32.toInt8.toInt32).toInt64 &&& (127 : Int64)).toInt = _ := c_maskL _ 127 7 (by decide) (by decide)
  rw [a, c_i2l]
  have b := c_i2b w.toInt32
  have d := c_l2i w
  generalize w.toInt32.toInt8.toInt32.toInt = B at *
  generalize w.toInt32.toInt = C at *
  generalize w.toInt = W at *
  generalize z.toInt = Y at *
  omega
theorem o_or128 (z : Int64) : ((z &&& (127 : Int64)) ||| (128 : Int64)).toInt = z.toInt % 128 + 128 := by
  have a : (z &&& (127 : Int64)).toInt = z.toInt % (2 ^ 7 : Nat) := c_maskL z 127 7 (by decide) (by decide)
  have e : (128 : Int64).toInt = 128 := rfl
  have o := c_orL' (z &&& (127 : Int64)) (128 : Int64) 7 (by decide) 128 (by decide) (by rw [e]; decide) (by rw [a]; omega) (by rw [a]; omega)
  rw [e, a] at o
  have r1 := Int64.le_toInt ((z &&& (127 : Int64)) ||| (128 : Int64)); have r2 := Int64.toInt_lt ((z &&& (127 : Int64)) ||| (128 : Int64))
  generalize ((z &&& (127 : Int64)) ||| (128 : Int64)).toInt = P at *
  generalize z.toInt = Y at *
  omega
theorem o_mbv (z : Int64) : ((o_mb z).toInt64 &&& (127 : Int64)).toInt = z.toInt % 128 := by
  refine o_byte z _ ?_
  rw [o_or128]; generalize z.toInt = Y; omega
theorem o_lbv (z : Int64) : ((o_lb z).toInt64 &&& (127 : Int64)).toInt = z.toInt % 128 := o_byte z z (by omega)
theorem o_and128 (x : Int32) : (x &&& (128 : Int32)).toInt = x.toInt % 256 - x.toInt % 128 := by
  have a := o_and_split32 x 128 127 255 (by decide) (by decide)
  have b : (x &&& (127 : Int32)).toInt = x.toInt % (2 ^ 7 : Nat) := c_mask x 127 7 (by decide) (by decide)
  have b' : (x &&& (255 : Int32)).toInt = x.toInt % (2 ^ 8 : Nat) := c_mask x 255 8 (by decide) (by decide)
  have d := c_iadd (x &&& (128 : Int32)) (x &&& (127 : Int32))
  rw [a, b, b'] at d
  have r1 := Int32.le_toInt (x &&& (128 : Int32)); have r2 := Int32.toInt_lt (x &&& (128 : Int32))
  generalize (x &&& (128 : Int32)).toInt = P at *
  generalize x.toInt = Y at *
  omega
theorem o_mb128 (z : Int64) : ¬ o_mb z &&& (128 : Int32) = 0 := by
  intro h
  have a := o_and128 (o_mb z)
  rw [h, show (0 : Int32).toInt = 0 from rfl] at a
  have b := c_i2b ((z &&& (127 : Int64)) ||| (128 : Int64)).toInt32
  have d := c_l2i ((z &&& (127 : Int64)) ||| (128 : Int64))
  rw [o_or128] at d
  change (((o_mb z).toInt - _) % 256 = 0 ∧ _) at b
  generalize (o_mb z).toInt = B at *
  generalize ((z &&& (127 : Int64)) ||| (128 : Int64)).toInt32.toInt = C at *
  generalize z.toInt = Y at *
  omega
theorem o_lb128 {z : Int64} (h : z &&& (-128 : Int64) = 0) : o_lb z &&& (128 : Int32) = 0 := by
  have n := o_neg128 z
  rw [h, show (0 : Int64).toInt = 0 from rfl] at n
  have a := o_and128 (o_lb z)
  apply Int32.toInt_inj.mp
  rw [a, show (0 : Int32).toInt = 0 from rfl]
  have b := c_i2b z.toInt32
  have d := c_l2i z
  change (((o_lb z).toInt - _) % 256 = 0 ∧ _) at b
  generalize (o_lb z).toInt = B at *
  generalize z.toInt32.toInt = C at *
  generalize z.toInt = Y at *
  omega
theorem o_xall (x : Int64) : (x ^^^ (-1 : Int64)).toInt = -x.toInt - 1 := by
  have e : x ^^^ (-1 : Int64) = ~~~ x := by
    apply Int64.toBitVec_inj.mp
    show x.toBitVec ^^^ (-1 : Int64).toBitVec = ~~~ x.toBitVec
    rw [show (-1 : Int64).toBitVec = BitVec.allOnes 64 by decide]
    exact BitVec.xor_allOnes
  have r1 := Int64.le_toInt x; have r2 := Int64.toInt_lt x
  rw [e, Int64.toInt_not, XT.bmod64 ⟨by omega, by omega⟩]
theorem o_unzz (p : Int64) : o_un (o_zz p) = p := by
  have a : ((p <<< (1 : Int64)).toInt - p.toInt * (2 ^ 1 : Nat)) % 18446744073709551616 = 0 := c_lshl p 1 1 (by decide)
  have b : (p >>> (63 : Int64)).toInt = p.toInt / (2 ^ 63 : Nat) := c_lshr p 63 63 (by decide)
  have r1 := Int64.le_toInt p; have r2 := Int64.toInt_lt p
  have r3 := Int64.le_toInt (p <<< (1 : Int64)); have r4 := Int64.toInt_lt (p <<< (1 : Int64))
  by_cases q : 0 ≤ p.toInt
  · have c0 : p >>> (63 : Int64) = 0 := by
      apply Int64.toInt_inj.mp
      rw [b, show (0 : Int64).toInt = 0 from rfl]
      omega
    have d : o_zz p = p <<< (1 : Int64) := by unfold o_zz; rw [c0, Int64.xor_zero]
    rw [d]
    generalize hz : p <<< (1 : Int64) = z at *
    have e : (z &&& (1 : Int64)).toInt = z.toInt % (2 ^ 1 : Nat) := c_maskL z 1 1 (by decide) (by decide)
    have f : z &&& (1 : Int64) = 0 := by
      apply Int64.toInt_inj.mp
      rw [e, show (0 : Int64).toInt = 0 from rfl]
      omega
    have g : ((z.toUInt64 >>> (1 : UInt64)).toInt64).toInt = (z.toInt % 18446744073709551616) / (2 ^ 1 : Nat) := c_lushr z 1 1 (by decide) (by decide)
    unfold o_un
    rw [f, show -(0 : Int64) = 0 from rfl, Int64.xor_zero]
    apply Int64.toInt_inj.mp
    omega
  · have c0 : p >>> (63 : Int64) = -1 := by
      apply Int64.toInt_inj.mp
      rw [b, show (-1 : Int64).toInt = -1 from rfl]
      omega
    have d : (o_zz p).toInt = -(p <<< (1 : Int64)).toInt - 1 := by unfold o_zz; rw [c0]; exact o_xall _
    generalize hz : o_zz p = z at *
    have e : (z &&& (1 : Int64)).toInt = z.toInt % (2 ^ 1 : Nat) := c_maskL z 1 1 (by decide) (by decide)
    have f : z &&& (1 : Int64) = 1 := by
      apply Int64.toInt_inj.mp
      rw [e, show (1 : Int64).toInt = 1 from rfl]
      omega
    have g : ((z.toUInt64 >>> (1 : UInt64)).toInt64).toInt = (z.toInt % 18446744073709551616) / (2 ^ 1 : Nat) := c_lushr z 1 1 (by decide) (by decide)
    unfold o_un
    rw [f, show -(1 : Int64) = -1 from rfl]
    apply Int64.toInt_inj.mp
    rw [o_xall]
    omega
theorem o_small (z : Int64) (h : z &&& (-128 : Int64) = 0) : 0 ≤ z.toInt ∧ z.toInt < 128 := by
  have a := o_neg128 z
  rw [h, show (0 : Int64).toInt = 0 from rfl] at a
  omega
theorem o_acc_0 (z : Int64) {r r' : Int64} (hr : r.toInt = z.toInt % 18446744073709551616 % 1) (h : r ||| ((o_mb z).toInt64 &&& (127 : Int64)) <<< (0 : Int64) = r') : r'.toInt = z.toInt % 18446744073709551616 % 128 := by
  subst h
  have b := o_mbv z
  have s : ((((o_mb z).toInt64 &&& (127 : Int64)) <<< (0 : Int64)).toInt - ((o_mb z).toInt64 &&& (127 : Int64)).toInt * (2 ^ 0 : Nat)) % 18446744073709551616 = 0 := c_lshl ((o_mb z).toInt64 &&& (127 : Int64)) 0 0 (by decide)
  have o := c_orL' r (((o_mb z).toInt64 &&& (127 : Int64)) <<< (0 : Int64)) 0 (by decide) 1 (by decide) (by omega) (by omega) (by omega)
  have ra1 := Int64.le_toInt z; have rb1 := Int64.toInt_lt z
  have ra2 := Int64.le_toInt (r ||| ((o_mb z).toInt64 &&& (127 : Int64)) <<< (0 : Int64)); have rb2 := Int64.toInt_lt (r ||| ((o_mb z).toInt64 &&& (127 : Int64)) <<< (0 : Int64))
  have ra3 := Int64.le_toInt (((o_mb z).toInt64 &&& (127 : Int64)) <<< (0 : Int64)); have rb3 := Int64.toInt_lt (((o_mb z).toInt64 &&& (127 : Int64)) <<< (0 : Int64))
  omega
theorem o_fin_0 (z : Int64) {r r' : Int64} (hr : r.toInt = z.toInt % 18446744073709551616 % 1) (hz : z &&& (-128 : Int64) = 0) (h : r ||| ((o_lb z).toInt64 &&& (127 : Int64)) <<< (0 : Int64) = r') : r' = z := by
  subst h
  apply Int64.toInt_inj.mp
  have sm := o_small _ hz
  have b := o_lbv z
  have s : ((((o_lb z).toInt64 &&& (127 : Int64)) <<< (0 : Int64)).toInt - ((o_lb z).toInt64 &&& (127 : Int64)).toInt * (2 ^ 0 : Nat)) % 18446744073709551616 = 0 := c_lshl ((o_lb z).toInt64 &&& (127 : Int64)) 0 0 (by decide)
  have o := c_orL' r (((o_lb z).toInt64 &&& (127 : Int64)) <<< (0 : Int64)) 0 (by decide) 1 (by decide) (by omega) (by omega) (by omega)
  have ra4 := Int64.le_toInt z; have rb4 := Int64.toInt_lt z
  have ra5 := Int64.le_toInt (r ||| ((o_lb z).toInt64 &&& (127 : Int64)) <<< (0 : Int64)); have rb5 := Int64.toInt_lt (r ||| ((o_lb z).toInt64 &&& (127 : Int64)) <<< (0 : Int64))
  have ra6 := Int64.le_toInt (((o_lb z).toInt64 &&& (127 : Int64)) <<< (0 : Int64)); have rb6 := Int64.toInt_lt (((o_lb z).toInt64 &&& (127 : Int64)) <<< (0 : Int64))
  omega
theorem o_acc_1 (z : Int64) {r r' : Int64} (hr : r.toInt = z.toInt % 18446744073709551616 % 128) (h : r ||| ((o_mb (o_sh z)).toInt64 &&& (127 : Int64)) <<< (7 : Int64) = r') : r'.toInt = z.toInt % 18446744073709551616 % 16384 := by
  subst h
  have v0 := o_shv z
  have b := o_mbv (o_sh z)
  have s : ((((o_mb (o_sh z)).toInt64 &&& (127 : Int64)) <<< (7 : Int64)).toInt - ((o_mb (o_sh z)).toInt64 &&& (127 : Int64)).toInt * (2 ^ 7 : Nat)) % 18446744073709551616 = 0 := c_lshl ((o_mb (o_sh z)).toInt64 &&& (127 : Int64)) 7 7 (by decide)
  have o := c_orL' r (((o_mb (o_sh z)).toInt64 &&& (127 : Int64)) <<< (7 : Int64)) 7 (by decide) 128 (by decide) (by omega) (by omega) (by omega)
  have ra7 := Int64.le_toInt z; have rb7 := Int64.toInt_lt z
  have ra8 := Int64.le_toInt (r ||| ((o_mb (o_sh z)).toInt64 &&& (127 : Int64)) <<< (7 : Int64)); have rb8 := Int64.toInt_lt (r ||| ((o_mb (o_sh z)).toInt64 &&& (127 : Int64)) <<< (7 : Int64))
  have ra9 := Int64.le_toInt (((o_mb (o_sh z)).toInt64 &&& (127 : Int64)) <<< (7 : Int64)); have rb9 := Int64.toInt_lt (((o_mb (o_sh z)).toInt64 &&& (127 : Int64)) <<< (7 : Int64))
  omega
theorem o_fin_1 (z : Int64) {r r' : Int64} (hr : r.toInt = z.toInt % 18446744073709551616 % 128) (hz : (o_sh z) &&& (-128 : Int64) = 0) (h : r ||| ((o_lb (o_sh z)).toInt64 &&& (127 : Int64)) <<< (7 : Int64) = r') : r' = z := by
  subst h
  apply Int64.toInt_inj.mp
  have sm := o_small _ hz
  have v0 := o_shv z
  have b := o_lbv (o_sh z)
  have s : ((((o_lb (o_sh z)).toInt64 &&& (127 : Int64)) <<< (7 : Int64)).toInt - ((o_lb (o_sh z)).toInt64 &&& (127 : Int64)).toInt * (2 ^ 7 : Nat)) % 18446744073709551616 = 0 := c_lshl ((o_lb (o_sh z)).toInt64 &&& (127 : Int64)) 7 7 (by decide)
  have o := c_orL' r (((o_lb (o_sh z)).toInt64 &&& (127 : Int64)) <<< (7 : Int64)) 7 (by decide) 128 (by decide) (by omega) (by omega) (by omega)
  have ra10 := Int64.le_toInt z; have rb10 := Int64.toInt_lt z
  have ra11 := Int64.le_toInt (r ||| ((o_lb (o_sh z)).toInt64 &&& (127 : Int64)) <<< (7 : Int64)); have rb11 := Int64.toInt_lt (r ||| ((o_lb (o_sh z)).toInt64 &&& (127 : Int64)) <<< (7 : Int64))
  have ra12 := Int64.le_toInt (((o_lb (o_sh z)).toInt64 &&& (127 : Int64)) <<< (7 : Int64)); have rb12 := Int64.toInt_lt (((o_lb (o_sh z)).toInt64 &&& (127 : Int64)) <<< (7 : Int64))
  omega
theorem o_acc_2 (z : Int64) {r r' : Int64} (hr : r.toInt = z.toInt % 18446744073709551616 % 16384) (h : r ||| ((o_mb (o_sh (o_sh z))).toInt64 &&& (127 : Int64)) <<< (14 : Int64) = r') : r'.toInt = z.toInt % 18446744073709551616 % 2097152 := by
  subst h
  have v0 := o_shv z
  have v1 := o_shv (o_sh z)
  have b := o_mbv (o_sh (o_sh z))
  have s : ((((o_mb (o_sh (o_sh z))).toInt64 &&& (127 : Int64)) <<< (14 : Int64)).toInt - ((o_mb (o_sh (o_sh z))).toInt64 &&& (127 : Int64)).toInt * (2 ^ 14 : Nat)) % 18446744073709551616 = 0 := c_lshl ((o_mb (o_sh (o_sh z))).toInt64 &&& (127 : Int64)) 14 14 (by decide)
  have o := c_orL' r (((o_mb (o_sh (o_sh z))).toInt64 &&& (127 : Int64)) <<< (14 : Int64)) 14 (by decide) 16384 (by decide) (by omega) (by omega) (by omega)
  have ra13 := Int64.le_toInt z; have rb13 := Int64.toInt_lt z
  have ra14 := Int64.le_toInt (r ||| ((o_mb (o_sh (o_sh z))).toInt64 &&& (127 : Int64)) <<< (14 : Int64)); have rb14 := Int64.toInt_lt (r ||| ((o_mb (o_sh (o_sh z))).toInt64 &&& (127 : Int64)) <<< (14 : Int64))
  have ra15 := Int64.le_toInt (((o_mb (o_sh (o_sh z))).toInt64 &&& (127 : Int64)) <<< (14 : Int64)); have rb15 := Int64.toInt_lt (((o_mb (o_sh (o_sh z))).toInt64 &&& (127 : Int64)) <<< (14 : Int64))
  omega
theorem o_fin_2 (z : Int64) {r r' : Int64} (hr : r.toInt = z.toInt % 18446744073709551616 % 16384) (hz : (o_sh (o_sh z)) &&& (-128 : Int64) = 0) (h : r ||| ((o_lb (o_sh (o_sh z))).toInt64 &&& (127 : Int64)) <<< (14 : Int64) = r') : r' = z := by
  subst h
  apply Int64.toInt_inj.mp
  have sm := o_small _ hz
  have v0 := o_shv z
  have v1 := o_shv (o_sh z)
  have b := o_lbv (o_sh (o_sh z))
  have s : ((((o_lb (o_sh (o_sh z))).toInt64 &&& (127 : Int64)) <<< (14 : Int64)).toInt - ((o_lb (o_sh (o_sh z))).toInt64 &&& (127 : Int64)).toInt * (2 ^ 14 : Nat)) % 18446744073709551616 = 0 := c_lshl ((o_lb (o_sh (o_sh z))).toInt64 &&& (127 : Int64)) 14 14 (by decide)
  have o := c_orL' r (((o_lb (o_sh (o_sh z))).toInt64 &&& (127 : Int64)) <<< (14 : Int64)) 14 (by decide) 16384 (by decide) (by omega) (by omega) (by omega)
  have ra16 := Int64.le_toInt z; have rb16 := Int64.toInt_lt z
  have ra17 := Int64.le_toInt (r ||| ((o_lb (o_sh (o_sh z))).toInt64 &&& (127 : Int64)) <<< (14 : Int64)); have rb17 := Int64.toInt_lt (r ||| ((o_lb (o_sh (o_sh z))).toInt64 &&& (127 : Int64)) <<< (14 : Int64))
  have ra18 := Int64.le_toInt (((o_lb (o_sh (o_sh z))).toInt64 &&& (127 : Int64)) <<< (14 : Int64)); have rb18 := Int64.toInt_lt (((o_lb (o_sh (o_sh z))).toInt64 &&& (127 : Int64)) <<< (14 : Int64))
  omega
theorem o_acc_3 (z : Int64) {r r' : Int64} (hr : r.toInt = z.toInt % 18446744073709551616 % 2097152) (h : r ||| ((o_mb (o_sh (o_sh (o_sh z)))).toInt64 &&& (127 : Int64)) <<< (21 : Int64) = r') : r'.toInt = z.toInt % 18446744073709551616 % 268435456 := by
  subst h
  have v0 := o_shv z
  have v1 := o_shv (o_sh z)
  have v2 := o_shv (o_sh (o_sh z))
  have b := o_mbv (o_sh (o_sh (o_sh z)))
  have s : ((((o_mb (o_sh (o_sh (o_sh z)))).toInt64 &&& (127 : Int64)) <<< (21 : Int64)).toInt - ((o_mb (o_sh (o_sh (o_sh z)))).toInt64 &&& (127 : Int64)).toInt * (2 ^ 21 : Nat)) % 18446744073709551616 = 0 := c_lshl ((o_mb (o_sh (o_sh (o_sh z)))).toInt64 &&& (127 : Int64)) 21 21 (by decide)
  have o := c_orL' r (((o_mb (o_sh (o_sh (o_sh z)))).toInt64 &&& (127 : Int64)) <<< (21 : Int64)) 21 (by decide) 2097152 (by decide) (by omega) (by omega) (by omega)
  have ra19 := Int64.le_toInt z; have rb19 := Int64.toInt_lt z
  have ra20 := Int64.le_toInt (r ||| ((o_mb (o_sh (o_sh (o_sh z)))).toInt64 &&& (127 : Int64)) <<< (21 : Int64)); have rb20 := Int64.toInt_lt (r ||| ((o_mb (o_sh (o_sh (o_sh z)))).toInt64 &&& (127 : Int64)) <<< (21 : Int64))
  have ra21 := Int64.le_toInt (((o_mb (o_sh (o_sh (o_sh z)))).toInt64 &&& (127 : Int64)) <<< (21 : Int64)); have rb21 := Int64.toInt_lt (((o_mb (o_sh (o_sh (o_sh z)))).toInt64 &&& (127 : Int64)) <<< (21 : Int64))
  omega
theorem o_fin_3 (z : Int64) {r r' : Int64} (hr : r.toInt = z.toInt % 18446744073709551616 % 2097152) (hz : (o_sh (o_sh (o_sh z))) &&& (-128 : Int64) = 0) (h : r ||| ((o_lb (o_sh (o_sh (o_sh z)))).toInt64 &&& (127 : Int64)) <<< (21 : Int64) = r') : r' = z := by
  subst h
  apply Int64.toInt_inj.mp
  have sm := o_small _ hz
  have v0 := o_shv z
  have v1 := o_shv (o_sh z)
  have v2 := o_shv (o_sh (o_sh z))
  have b := o_lbv (o_sh (o_sh (o_sh z)))
  have s : ((((o_lb (o_sh (o_sh (o_sh z)))).toInt64 &&& (127 : Int64)) <<< (21 : Int64)).toInt - ((o_lb (o_sh (o_sh (o_sh z)))).toInt64 &&& (127 : Int64)).toInt * (2 ^ 21 : Nat)) % 18446744073709551616 = 0 := c_lshl ((o_lb (o_sh (o_sh (o_sh z)))).toInt64 &&& (127 : Int64)) 21 21 (by decide)
  have o := c_orL' r (((o_lb (o_sh (o_sh (o_sh z)))).toInt64 &&& (127 : Int64)) <<< (21 : Int64)) 21 (by decide) 2097152 (by decide) (by omega) (by omega) (by omega)
  have ra22 := Int64.le_toInt z; have rb22 := Int64.toInt_lt z
  have ra23 := Int64.le_toInt (r ||| ((o_lb (o_sh (o_sh (o_sh z)))).toInt64 &&& (127 : Int64)) <<< (21 : Int64)); have rb23 := Int64.toInt_lt (r ||| ((o_lb (o_sh (o_sh (o_sh z)))).toInt64 &&& (127 : Int64)) <<< (21 : Int64))
  have ra24 := Int64.le_toInt (((o_lb (o_sh (o_sh (o_sh z)))).toInt64 &&& (127 : Int64)) <<< (21 : Int64)); have rb24 := Int64.toInt_lt (((o_lb (o_sh (o_sh (o_sh z)))).toInt64 &&& (127 : Int64)) <<< (21 : Int64))
  omega
theorem o_acc_4 (z : Int64) {r r' : Int64} (hr : r.toInt = z.toInt % 18446744073709551616 % 268435456) (h : r ||| ((o_mb (o_sh (o_sh (o_sh (o_sh z))))).toInt64 &&& (127 : Int64)) <<< (28 : Int64) = r') : r'.toInt = z.toInt % 18446744073709551616 % 34359738368 := by
  subst h
  have v0 := o_shv z
  have v1 := o_shv (o_sh z)
  have v2 := o_shv (o_sh (o_sh z))
  have v3 := o_shv (o_sh (o_sh (o_sh z)))
  have b := o_mbv (o_sh (o_sh (o_sh (o_sh z))))
  have s : ((((o_mb (o_sh (o_sh (o_sh (o_sh z))))).toInt64 &&& (127 : Int64)) <<< (28 : Int64)).toInt - ((o_mb (o_sh (o_sh (o_sh (o_sh z))))).toInt64 &&& (127 : Int64)).toInt * (2 ^ 28 : Nat)) % 18446744073709551616 = 0 := c_lshl ((o_mb (o_sh (o_sh (o_sh (o_sh z))))).toInt64 &&& (127 : Int64)) 28 28 (by decide)
  have o := c_orL' r (((o_mb (o_sh (o_sh (o_sh (o_sh z))))).toInt64 &&& (127 : Int64)) <<< (28 : Int64)) 28 (by decide) 268435456 (by decide) (by omega) (by omega) (by omega)
  have ra25 := Int64.le_toInt z; have rb25 := Int64.toInt_lt z
  have ra26 := Int64.le_toInt (r ||| ((o_mb (o_sh (o_sh (o_sh (o_sh z))))).toInt64 &&& (127 : Int64)) <<< (28 : Int64)); have rb26 := Int64.toInt_lt (r ||| ((o_mb (o_sh (o_sh (o_sh (o_sh z))))).toInt64 &&& (127 : Int64)) <<< (28 : Int64))
  have ra27 := Int64.le_toInt (((o_mb (o_sh (o_sh (o_sh (o_sh z))))).toInt64 &&& (127 : Int64)) <<< (28 : Int64)); have rb27 := Int64.toInt_lt (((o_mb (o_sh (o_sh (o_sh (o_sh z))))).toInt64 &&& (127 : Int64)) <<< (28 : Int64))
  omega
theorem o_fin_4 (z : Int64) {r r' : Int64} (hr : r.toInt = z.toInt % 18446744073709551616 % 268435456) (hz : (o_sh (o_sh (o_sh (o_sh z)))) &&& (-128 : Int64) = 0) (h : r ||| ((o_lb (o_sh (o_sh (o_sh (o_sh z))))).toInt64 &&& (127 : Int64)) <<< (28 : Int64) = r') : r' = z := by
  subst h
  apply Int64.toInt_inj.mp
  have sm := o_small _ hz
  have v0 := o_shv z
  have v1 := o_shv (o_sh z)
  have v2 := o_shv (o_sh (o_sh z))
  have v3 := o_shv (o_sh (o_sh (o_sh z)))
  have b := o_lbv (o_sh (o_sh (o_sh (o_sh z))))
  have s : ((((o_lb (o_sh (o_sh (o_sh (o_sh z))))).toInt64 &&& (127 : Int64)) <<< (28 : Int64)).toInt - ((o_lb (o_sh (o_sh (o_sh (o_sh z))))).toInt64 &&& (127 : Int64)).toInt * (2 ^ 28 : Nat)) % 18446744073709551616 = 0 := c_lshl ((o_lb (o_sh (o_sh (o_sh (o_sh z))))).toInt64 &&& (127 : Int64)) 28 28 (by decide)
  have o := c_orL' r (((o_lb (o_sh (o_sh (o_sh (o_sh z))))).toInt64 &&& (127 : Int64)) <<< (28 : Int64)) 28 (by decide) 268435456 (by decide) (by omega) (by omega) (by omega)
  have ra28 := Int64.le_toInt z; have rb28 := Int64.toInt_lt z
  have ra29 := Int64.le_toInt (r ||| ((o_lb (o_sh (o_sh (o_sh (o_sh z))))).toInt64 &&& (127 : Int64)) <<< (28 : Int64)); have rb29 := Int64.toInt_lt (r ||| ((o_lb (o_sh (o_sh (o_sh (o_sh z))))).toInt64 &&& (127 : Int64)) <<< (28 : Int64))
  have ra30 := Int64.le_toInt (((o_lb (o_sh (o_sh (o_sh (o_sh z))))).toInt64 &&& (127 : Int64)) <<< (28 : Int64)); have rb30 := Int64.toInt_lt (((o_lb (o_sh (o_sh (o_sh (o_sh z))))).toInt64 &&& (127 : Int64)) <<< (28 : Int64))
  omega
theorem o_acc_5 (z : Int64) {r r' : Int64} (hr : r.toInt = z.toInt % 18446744073709551616 % 34359738368) (h : r ||| ((o_mb (o_sh (o_sh (o_sh (o_sh (o_sh z)))))).toInt64 &&& (127 : Int64)) <<< (35 : Int64) = r') : r'.toInt = z.toInt % 18446744073709551616 % 4398046511104 := by
  subst h
  have v0 := o_shv z
  have v1 := o_shv (o_sh z)
  have v2 := o_shv (o_sh (o_sh z))
  have v3 := o_shv (o_sh (o_sh (o_sh z)))
  have v4 := o_shv (o_sh (o_sh (o_sh (o_sh z))))
  have b := o_mbv (o_sh (o_sh (o_sh (o_sh (o_sh z)))))
  have s : ((((o_mb (o_sh (o_sh (o_sh (o_sh (o_sh z)))))).toInt64 &&& (127 : Int64)) <<< (35 : Int64)).toInt - ((o_mb (o_sh (o_sh (o_sh (o_sh (o_sh z)))))).toInt64 &&& (127 : Int64)).toInt * (2 ^ 35 : Nat)) % 18446744073709551616 = 0 := c_lshl ((o_mb (o_sh (o_sh (o_sh (o_sh (o_sh z)))))).toInt64 &&& (127 : Int64)) 35 35 (by decide)
  have o := c_orL' r (((o_mb (o_sh (o_sh (o_sh (o_sh (o_sh z)))))).toInt64 &&& (127 : Int64)) <<< (35 : Int64)) 35 (by decide) 34359738368 (by decide) (by omega) (by omega) (by omega)
  have ra31 := Int64.le_toInt z; have rb31 := Int64.toInt_lt z
  have ra32 := Int64.le_toInt (r ||| ((o_mb (o_sh (o_sh (o_sh (o_sh (o_sh z)))))).toInt64 &&& (127 : Int64)) <<< (35 : Int64)); have rb32 := Int64.toInt_lt (r ||| ((o_mb (o_sh (o_sh (o_sh (o_sh (o_sh z)))))).toInt64 &&& (127 : Int64)) <<< (35 : Int64))
  have ra33 := Int64.le_toInt (((o_mb (o_sh (o_sh (o_sh (o_sh (o_sh z)))))).toInt64 &&& (127 : Int64)) <<< (35 : Int64)); have rb33 := Int64.toInt_lt (((o_mb (o_sh (o_sh (o_sh (o_sh (o_sh z)))))).toInt64 &&& (127 : Int64)) <<< (35 : Int64))
  omega
theorem o_fin_5 (z : Int64) {r r' : Int64} (hr : r.toInt = z.toInt % 18446744073709551616 % 34359738368) (hz : (o_sh (o_sh (o_sh (o_sh (o_sh z))))) &&& (-128 : Int64) = 0) (h : r ||| ((o_lb (o_sh (o_sh (o_sh (o_sh (o_sh z)))))).toInt64 &&& (127 : Int64)) <<< (35 : Int64) = r') : r' = z := by
  subst h
  apply Int64.toInt_inj.mp
  have sm := o_small _ hz
  have v0 := o_shv z
  have v1 := o_shv (o_sh z)
  have v2 := o_shv (o_sh (o_sh z))
  have v3 := o_shv (o_sh (o_sh (o_sh z)))
  have v4 := o_shv (o_sh (o_sh (o_sh (o_sh z))))
  have b := o_lbv (o_sh (o_sh (o_sh (o_sh (o_sh z)))))
  have s : ((((o_lb (o_sh (o_sh (o_sh (o_sh (o_sh z)))))).toInt64 &&& (127 : Int64)) <<< (35 : Int64)).toInt - ((o_lb (o_sh (o_sh (o_sh (o_sh (o_sh z)))))).toInt64 &&& (127 : Int64)).toInt * (2 ^ 35 : Nat)) % 18446744073709551616 = 0 := c_lshl ((o_lb (o_sh (o_sh (o_sh (o_sh (o_sh z)))))).toInt64 &&& (127 : Int64)) 35 35 (by decide)
  have o := c_orL' r (((o_lb (o_sh (o_sh (o_sh (o_sh (o_sh z)))))).toInt64 &&& (127 : Int64)) <<< (35 : Int64)) 35 (by decide) 34359738368 (by decide) (by omega) (by omega) (by omega)
  have ra34 := Int64.le_toInt z; have rb34 := Int64.toInt_lt z
  have ra35 := Int64.le_toInt (r ||| ((o_lb (o_sh (o_sh (o_sh (o_sh (o_sh z)))))).toInt64 &&& (127 : Int64)) <<< (35 : Int64)); have rb35 := Int64.toInt_lt (r ||| ((o_lb (o_sh (o_sh (o_sh (o_sh (o_sh z)))))).toInt64 &&& (127 : Int64)) <<< (35 : Int64))
  have ra36 := Int64.le_toInt (((o_lb (o_sh (o_sh (o_sh (o_sh (o_sh z)))))).toInt64 &&& (127 : Int64)) <<< (35 : Int64)); have rb36 := Int64.toInt_lt (((o_lb (o_sh (o_sh (o_sh (o_sh (o_sh z)))))).toInt64 &&& (127 : Int64)) <<< (35 : Int64))
  omega
theorem o_acc_6 (z : Int64) {r r' : Int64} (hr : r.toInt = z.toInt % 18446744073709551616 % 4398046511104) (h : r ||| ((o_mb (o_sh (o_sh (o_sh (o_sh (o_sh (o_sh z))))))).toInt64 &&& (127 : Int64)) <<< (42 : Int64) = r') : r'.toInt = z.toInt % 18446744073709551616 % 562949953421312 := by
  subst h
  have v0 := o_shv z
  have v1 := o_shv (o_sh z)
  have v2 := o_shv (o_sh (o_sh z))
  have v3 := o_shv (o_sh (o_sh (o_sh z)))
  have v4 := o_shv (o_sh (o_sh (o_sh (o_sh z))))
  have v5 := o_shv (o_sh (o_sh (o_sh (o_sh (o_sh z)))))
  have b := o_mbv (o_sh (o_sh (o_sh (o_sh (o_sh (o_sh z))))))
  have s : ((((o_mb (o_sh (o_sh (o_sh (o_sh (o_sh (o_sh z))))))).toInt64 &&& (127 : Int64)) <<< (42 : Int64)).toInt - ((o_mb (o_sh (o_sh (o_sh (o_sh (o_sh (o_sh z))))))).toInt64 &&& (127 : Int64)).toInt * (2 ^ 42 : Nat)) % 18446744073709551616 = 0 := c_lshl ((o_mb (o_sh (o_sh (o_sh (o_sh (o_sh (o_sh z))))))).toInt64 &&& (127 : Int64)) 42 42 (by decide)
  have o := c_orL' r (((o_mb (o_sh (o_sh (o_sh (o_sh (o_sh (o_sh z))))))).toInt64 &&& (127 : Int64)) <<< (42 : Int64)) 42 (by decide) 4398046511104 (by decide) (by omega) (by omega) (by omega)
  have ra37 := Int64.le_toInt z; have rb37 := Int64.toInt_lt z
  have ra38 := Int64.le_toInt (r ||| ((o_mb (o_sh (o_sh (o_sh (o_sh (o_sh (o_sh z))))))).toInt64 &&& (127 : Int64)) <<< (42 : Int64)); have rb38 := Int64.toInt_lt (r ||| ((o_mb (o_sh (o_sh (o_sh (o_sh (o_sh (o_sh z))))))).toInt64 &&& (127 : Int64)) <<< (42 : Int64))
  have ra39 := Int64.le_toInt (((o_mb (o_sh (o_sh (o_sh (o_sh (o_sh (o_sh z))))))).toInt64 &&& (127 : Int64)) <<< (42 : Int64)); have rb39 := Int64.toInt_lt (((o_mb (o_sh (o_sh (o_sh (o_sh (o_sh (o_sh z))))))).toInt64 &&& (127 : Int64)) <<< (42 : Int64))
  omega
theorem o_fin_6 (z : Int64) {r r' : Int64} (hr : r.toInt = z.toInt % 18446744073709551616 % 4398046511104) (hz : (o_sh (o_sh (o_sh (o_sh (o_sh (o_sh z)))))) &&& (-128 : Int64) = 0) (h : r ||| ((o_lb (o_sh (o_sh (o_sh (o_sh (o_sh (o_sh z))))))).toInt64 &&& (127 : Int64)) <<< (42 : Int64) = r') : r' = z := by
  subst h
  apply Int64.toInt_inj.mp
  have sm := o_small _ hz
  have v0 := o_shv z
  have v1 := o_shv (o_sh z)
  have v2 := o_shv (o_sh (o_sh z))
  have v3 := o_shv (o_sh (o_sh (o_sh z)))
  have v4 := o_shv (o_sh (o_sh (o_sh (o_sh z))))
  have v5 := o_shv (o_sh (o_sh (o_sh (o_sh (o_sh z)))))
  have b := o_lbv (o_sh (o_sh (o_sh (o_sh (o_sh (o_sh z))))))
  have s : ((((o_lb (o_sh (o_sh (o_sh (o_sh (o_sh (o_sh z))))))).toInt64 &&& (127 : Int64)) <<< (42 : Int64)).toInt - ((o_lb (o_sh (o_sh (o_sh (o_sh (o_sh (o_sh z))))))).toInt64 &&& (127 : Int64)).toInt * (2 ^ 42 : Nat)) % 18446744073709551616 = 0 := c_lshl ((o_lb (o_sh (o_sh (o_sh (o_sh (o_sh (o_sh z))))))).toInt64 &&& (127 : Int64)) 42 42 (by decide)
  have o := c_orL' r (((o_lb (o_sh (o_sh (o_sh (o_sh (o_sh (o_sh z))))))).toInt64 &&& (127 : Int64)) <<< (42 : Int64)) 42 (by decide) 4398046511104 (by decide) (by omega) (by omega) (by omega)
  have ra40 := Int64.le_toInt z; have rb40 := Int64.toInt_lt z
  have ra41 := Int64.le_toInt (r ||| ((o_lb (o_sh (o_sh (o_sh (o_sh (o_sh (o_sh z))))))).toInt64 &&& (127 : Int64)) <<< (42 : Int64)); have rb41 := Int64.toInt_lt (r ||| ((o_lb (o_sh (o_sh (o_sh (o_sh (o_sh (o_sh z))))))).toInt64 &&& (127 : Int64)) <<< (42 : Int64))
  have ra42 := Int64.le_toInt (((o_lb (o_sh (o_sh (o_sh (o_sh (o_sh (o_sh z))))))).toInt64 &&& (127 : Int64)) <<< (42 : Int64)); have rb42 := Int64.toInt_lt (((o_lb (o_sh (o_sh (o_sh (o_sh (o_sh (o_sh z))))))).toInt64 &&& (127 : Int64)) <<< (42 : Int64))
  omega
theorem o_acc_7 (z : Int64) {r r' : Int64} (hr : r.toInt = z.toInt % 18446744073709551616 % 562949953421312) (h : r ||| ((o_mb (o_sh (o_sh (o_sh (o_sh (o_sh (o_sh (o_sh z)))))))).toInt64 &&& (127 : Int64)) <<< (49 : Int64) = r') : r'.toInt = z.toInt % 18446744073709551616 % 72057594037927936 := by
  subst h
  have v0 := o_shv z
  have v1 := o_shv (o_sh z)
  have v2 := o_shv (o_sh (o_sh z))
  have v3 := o_shv (o_sh (o_sh (o_sh z)))
  have v4 := o_shv (o_sh (o_sh (o_sh (o_sh z))))
  have v5 := o_shv (o_sh (o_sh (o_sh (o_sh (o_sh z)))))
  have v6 := o_shv (o_sh (o_sh (o_sh (o_sh (o_sh (o_sh z))))))
  have b := o_mbv (o_sh (o_sh (o_sh (o_sh (o_sh (o_sh (o_sh z)))))))
  have s : ((((o_mb (o_sh (o_sh (o_sh (o_sh (o_sh (o_sh (o_sh z)))))))).toInt64 &&& (127 : Int64)) <<< (49 : Int64)).toInt - ((o_mb (o_sh (o_sh (o_sh (o_sh (o_sh (o_sh (o_sh z)))))))).toInt64 &&& (127 : Int64)).toInt * (2 ^ 49 : Nat)) % 18446744073709551616 = 0 := c_lshl ((o_mb (o_sh (o_sh (o_sh (o_sh (o_sh (o_sh (o_sh z)))))))).toInt64 &&& (127 : Int64)) 49 49 (by decide)
  have o := c_orL' r (((o_mb (o_sh (o_sh (o_sh (o_sh (o_sh (o_sh (o_sh z)))))))).toInt64 &&& (127 : Int64)) <<< (49 : Int64)) 49 (by decide) 562949953421312 (by decide) (by omega) (by omega) (by omega)
  have ra43 := Int64.le_toInt z; have rb43 := Int64.toInt_lt z
  have ra44 := Int64.le_toInt (r ||| ((o_mb (o_sh (o_sh (o_sh (o_sh (o_sh (o_sh (o_sh z)))))))).toInt64 &&& (127 : Int64)) <<< (49 : Int64)); have rb44 := Int64.toInt_lt (r ||| ((o_mb (o_sh (o_sh (o_sh (o_sh (o_sh (o_sh (o_sh z)))))))).toInt64 &&& (127 : Int64)) <<< (49 : Int64))
  have ra45 := Int64.le_toInt (((o_mb (o_sh (o_sh (o_sh (o_sh (o_sh (o_sh (o_sh z)))))))).toInt64 &&& (127 : Int64)) <<< (49 : Int64)); have rb45 := Int64.toInt_lt (((o_mb (o_sh (o_sh (o_sh (o_sh (o_sh (o_sh (o_sh z)))))))).toInt64 &&& (127 : Int64)) <<< (49 : Int64))
  omega
theorem o_fin_7 (z : Int64) {r r' : Int64} (hr : r.toInt = z.toInt % 18446744073709551616 % 562949953421312) (hz : (o_sh (o_sh (o_sh (o_sh (o_sh (o_sh (o_sh z))))))) &&& (-128 : Int64) = 0) (h : r ||| ((o_lb (o_sh (o_sh (o_sh (o_sh (o_sh (o_sh (o_sh z)))))))).toInt64 &&& (127 : Int64)) <<< (49 : Int64) = r') : r' = z := by
  subst h
  apply Int64.toInt_inj.mp
  have sm := o_small _ hz
  have v0 := o_shv z
  have v1 := o_shv (o_sh z)
  have v2 := o_shv (o_sh (o_sh z))
  have v3 := o_shv (o_sh (o_sh (o_sh z)))
  have v4 := o_shv (o_sh (o_sh (o_sh (o_sh z))))
  have v5 := o_shv (o_sh (o_sh (o_sh (o_sh (o_sh z)))))
  have v6 := o_shv (o_sh (o_sh (o_sh (o_sh (o_sh (o_sh z))))))
  have b := o_lbv (o_sh (o_sh (o_sh (o_sh (o_sh (o_sh (o_sh z)))))))
  have s : ((((o_lb (o_sh (o_sh (o_sh (o_sh (o_sh (o_sh (o_sh z)))))))).toInt64 &&& (127 : Int64)) <<< (49 : Int64)).toInt - ((o_lb (o_sh (o_sh (o_sh (o_sh (o_sh (o_sh (o_sh z)))))))).toInt64 &&& (127 : Int64)).toInt * (2 ^ 49 : Nat)) % 18446744073709551616 = 0 := c_lshl ((o_lb (o_sh (o_sh (o_sh (o_sh (o_sh (o_sh (o_sh z)))))))).toInt64 &&& (127 : Int64)) 49 49 (by decide)
  have o := c_orL' r (((o_lb (o_sh (o_sh (o_sh (o_sh (o_sh (o_sh (o_sh z)))))))).toInt64 &&& (127 : Int64)) <<< (49 : Int64)) 49 (by decide) 562949953421312 (by decide) (by omega) (by omega) (by omega)
  have ra46 := Int64.le_toInt z; have rb46 := Int64.toInt_lt z
  have ra47 := Int64.le_toInt (r ||| ((o_lb (o_sh (o_sh (o_sh (o_sh (o_sh (o_sh (o_sh z)))))))).toInt64 &&& (127 : Int64)) <<< (49 : Int64)); have rb47 := Int64.toInt_lt (r ||| ((o_lb (o_sh (o_sh (o_sh (o_sh (o_sh (o_sh (o_sh z)))))))).toInt64 &&& (127 : Int64)) <<< (49 : Int64))
  have ra48 := Int64.le_toInt (((o_lb (o_sh (o_sh (o_sh (o_sh (o_sh (o_sh (o_sh z)))))))).toInt64 &&& (127 : Int64)) <<< (49 : Int64)); have rb48 := Int64.toInt_lt (((o_lb (o_sh (o_sh (o_sh (o_sh (o_sh (o_sh (o_sh z)))))))).toInt64 &&& (127 : Int64)) <<< (49 : Int64))
  omega
theorem o_acc_8 (z : Int64) {r r' : Int64} (hr : r.toInt = z.toInt % 18446744073709551616 % 72057594037927936) (h : r ||| ((o_mb (o_sh (o_sh (o_sh (o_sh (o_sh (o_sh (o_sh (o_sh z))))))))).toInt64 &&& (127 : Int64)) <<< (56 : Int64) = r') : r'.toInt = z.toInt % 18446744073709551616 % 9223372036854775808 := by
  subst h
  have v0 := o_shv z
  have v1 := o_shv (o_sh z)
  have v2 := o_shv (o_sh (o_sh z))
  have v3 := o_shv (o_sh (o_sh (o_sh z)))
  have v4 := o_shv (o_sh (o_sh (o_sh (o_sh z))))
  have v5 := o_shv (o_sh (o_sh (o_sh (o_sh (o_sh z)))))
  have v6 := o_shv (o_sh (o_sh (o_sh (o_sh (o_sh (o_sh z))))))
  have v7 := o_shv (o_sh (o_sh (o_sh (o_sh (o_sh (o_sh (o_sh z)))))))
  have b := o_mbv (o_sh (o_sh (o_sh (o_sh (o_sh (o_sh (o_sh (o_sh z))))))))
  have s : ((((o_mb (o_sh (o_sh (o_sh (o_sh (o_sh (o_sh (o_sh (o_sh z))))))))).toInt64 &&& (127 : Int64)) <<< (56 : Int64)).toInt - ((o_mb (o_sh (o_sh (o_sh (o_sh (o_sh (o_sh (o_sh (o_sh z))))))))).toInt64 &&& (127 : Int64)).toInt * (2 ^ 56 : Nat)) % 18446744073709551616 = 0 := c_lshl ((o_mb (o_sh (o_sh (o_sh (o_sh (o_sh (o_sh (o_sh (o_sh z))))))))).toInt64 &&& (127 : Int64)) 56 56 (by decide)
  have o := c_orL' r (((o_mb (o_sh (o_sh (o_sh (o_sh (o_sh (o_sh (o_sh (o_sh z))))))))).toInt64 &&& (127 : Int64)) <<< (56 : Int64)) 56 (by decide) 72057594037927936 (by decide) (by omega) (by omega) (by omega)
  have ra49 := Int64.le_toInt z; have rb49 := Int64.toInt_lt z
  have ra50 := Int64.le_toInt (r ||| ((o_mb (o_sh (o_sh (o_sh (o_sh (o_sh (o_sh (o_sh (o_sh z))))))))).toInt64 &&& (127 : Int64)) <<< (56 : Int64)); have rb50 := Int64.toInt_lt (r ||| ((o_mb (o_sh (o_sh (o_sh (o_sh (o_sh (o_sh (o_sh (o_sh z))))))))).toInt64 &&& (127 : Int64)) <<< (56 : Int64))
  have ra51 := Int64.le_toInt (((o_mb (o_sh (o_sh (o_sh (o_sh (o_sh (o_sh (o_sh (o_sh z))))))))).toInt64 &&& (127 : Int64)) <<< (56 : Int64)); have rb51 := Int64.toInt_lt (((o_mb (o_sh (o_sh (o_sh (o_sh (o_sh (o_sh (o_sh (o_sh z))))))))).toInt64 &&& (127 : Int64)) <<< (56 : Int64))
  omega
theorem o_fin_8 (z : Int64) {r r' : Int64} (hr : r.toInt = z.toInt % 18446744073709551616 % 72057594037927936) (hz : (o_sh (o_sh (o_sh (o_sh (o_sh (o_sh (o_sh (o_sh z)))))))) &&& (-128 : Int64) = 0) (h : r ||| ((o_lb (o_sh (o_sh (o_sh (o_sh (o_sh (o_sh (o_sh (o_sh z))))))))).toInt64 &&& (127 : Int64)) <<< (56 : Int64) = r') : r' = z := by
  subst h
  apply Int64.toInt_inj.mp
  have sm := o_small _ hz
  have v0 := o_shv z
  have v1 := o_shv (o_sh z)
  have v2 := o_shv (o_sh (o_sh z))
  have v3 := o_shv (o_sh (o_sh (o_sh z)))
  have v4 := o_shv (o_sh (o_sh (o_sh (o_sh z))))
  have v5 := o_shv (o_sh (o_sh (o_sh (o_sh (o_sh z)))))
  have v6 := o_shv (o_sh (o_sh (o_sh (o_sh (o_sh (o_sh z))))))
  have v7 := o_shv (o_sh (o_sh (o_sh (o_sh (o_sh (o_sh (o_sh z)))))))
  have b := o_lbv (o_sh (o_sh (o_sh (o_sh (o_sh (o_sh (o_sh (o_sh z))))))))
  have s : ((((o_lb (o_sh (o_sh (o_sh (o_sh (o_sh (o_sh (o_sh (o_sh z))))))))).toInt64 &&& (127 : Int64)) <<< (56 : Int64)).toInt - ((o_lb (o_sh (o_sh (o_sh (o_sh (o_sh (o_sh (o_sh (o_sh z))))))))).toInt64 &&& (127 : Int64)).toInt * (2 ^ 56 : Nat)) % 18446744073709551616 = 0 := c_lshl ((o_lb (o_sh (o_sh (o_sh (o_sh (o_sh (o_sh (o_sh (o_sh z))))))))).toInt64 &&& (127 : Int64)) 56 56 (by decide)
  have o := c_orL' r (((o_lb (o_sh (o_sh (o_sh (o_sh (o_sh (o_sh (o_sh (o_sh z))))))))).toInt64 &&& (127 : Int64)) <<< (56 : Int64)) 56 (by decide) 72057594037927936 (by decide) (by omega) (by omega) (by omega)
  have ra52 := Int64.le_toInt z; have rb52 := Int64.toInt_lt z
  have ra53 := Int64.le_toInt (r ||| ((o_lb (o_sh (o_sh (o_sh (o_sh (o_sh (o_sh (o_sh (o_sh z))))))))).toInt64 &&& (127 : Int64)) <<< (56 : Int64)); have rb53 := Int64.toInt_lt (r ||| ((o_lb (o_sh (o_sh (o_sh (o_sh (o_sh (o_sh (o_sh (o_sh z))))))))).toInt64 &&& (127 : Int64)) <<< (56 : Int64))
  have ra54 := Int64.le_toInt (((o_lb (o_sh (o_sh (o_sh (o_sh (o_sh (o_sh (o_sh (o_sh z))))))))).toInt64 &&& (127 : Int64)) <<< (56 : Int64)); have rb54 := Int64.toInt_lt (((o_lb (o_sh (o_sh (o_sh (o_sh (o_sh (o_sh (o_sh (o_sh z))))))))).toInt64 &&& (127 : Int64)) <<< (56 : Int64))
  omega
theorem o_fin_9 (z : Int64) {r r' : Int64} (hr : r.toInt = z.toInt % 18446744073709551616 % 9223372036854775808) (hz : (o_sh (o_sh (o_sh (o_sh (o_sh (o_sh (o_sh (o_sh (o_sh z))))))))) &&& (-128 : Int64) = 0) (h : r ||| ((o_lb (o_sh (o_sh (o_sh (o_sh (o_sh (o_sh (o_sh (o_sh (o_sh z)))))))))).toInt64 &&& (127 : Int64)) <<< (63 : Int64) = r') : r' = z := by
  subst h
  apply Int64.toInt_inj.mp
  have sm := o_small _ hz
  have v0 := o_shv z
  have v1 := o_shv (o_sh z)
  have v2 := o_shv (o_sh (o_sh z))
  have v3 := o_shv (o_sh (o_sh (o_sh z)))
  have v4 := o_shv (o_sh (o_sh (o_sh (o_sh z))))
  have v5 := o_shv (o_sh (o_sh (o_sh (o_sh (o_sh z)))))
  have v6 := o_shv (o_sh (o_sh (o_sh (o_sh (o_sh (o_sh z))))))
  have v7 := o_shv (o_sh (o_sh (o_sh (o_sh (o_sh (o_sh (o_sh z)))))))
  have v8 := o_shv (o_sh (o_sh (o_sh (o_sh (o_sh (o_sh (o_sh (o_sh z))))))))
  have b := o_lbv (o_sh (o_sh (o_sh (o_sh (o_sh (o_sh (o_sh (o_sh (o_sh z)))))))))
  have s : ((((o_lb (o_sh (o_sh (o_sh (o_sh (o_sh (o_sh (o_sh (o_sh (o_sh z)))))))))).toInt64 &&& (127 : Int64)) <<< (63 : Int64)).toInt - ((o_lb (o_sh (o_sh (o_sh (o_sh (o_sh (o_sh (o_sh (o_sh (o_sh z)))))))))).toInt64 &&& (127 : Int64)).toInt * (2 ^ 63 : Nat)) % 18446744073709551616 = 0 := c_lshl ((o_lb (o_sh (o_sh (o_sh (o_sh (o_sh (o_sh (o_sh (o_sh (o_sh z)))))))))).toInt64 &&& (127 : Int64)) 63 63 (by decide)
  have o := c_orL' r (((o_lb (o_sh (o_sh (o_sh (o_sh (o_sh (o_sh (o_sh (o_sh (o_sh z)))))))))).toInt64 &&& (127 : Int64)) <<< (63 : Int64)) 63 (by decide) 9223372036854775808 (by decide) (by omega) (by omega) (by omega)
  have ra55 := Int64.le_toInt z; have rb55 := Int64.toInt_lt z
  have ra56 := Int64.le_toInt (r ||| ((o_lb (o_sh (o_sh (o_sh (o_sh (o_sh (o_sh (o_sh (o_sh (o_sh z)))))))))).toInt64 &&& (127 : Int64)) <<< (63 : Int64)); have rb56 := Int64.toInt_lt (r ||| ((o_lb (o_sh (o_sh (o_sh (o_sh (o_sh (o_sh (o_sh (o_sh (o_sh z)))))))))).toInt64 &&& (127 : Int64)) <<< (63 : Int64))
  have ra57 := Int64.le_toInt (((o_lb (o_sh (o_sh (o_sh (o_sh (o_sh (o_sh (o_sh (o_sh (o_sh z)))))))))).toInt64 &&& (127 : Int64)) <<< (63 : Int64)); have rb57 := Int64.toInt_lt (((o_lb (o_sh (o_sh (o_sh (o_sh (o_sh (o_sh (o_sh (o_sh (o_sh z)))))))))).toInt64 &&& (127 : Int64)) <<< (63 : Int64))
  omega


theorem d_prog_80_method_1_code_0 : decode prog_80_method_1_code 0 = .ok (.aload_n 0, 1) := by decide +kernel
theorem d_prog_80_method_1_code_1 : decode prog_80_method_1_code 1 = .ok (.invokespecial 5, 3) := by decide +kernel
theorem d_prog_80_method_1_code_4 : decode prog_80_method_1_code 4 = .ok (.aload_n 0, 1) := by decide +kernel
theorem d_prog_80_method_1_code_5 : decode prog_80_method_1_code 5 = .ok (.sipush 4096, 3) := by decide +kernel
theorem d_prog_80_method_1_code_8 : decode prog_80_method_1_code 8 = .ok (.newarray .byte, 2) := by decide +kernel
theorem d_prog_80_method_1_code_10 : decode prog_80_method_1_code 10 = .ok (.putfield 11, 3) := by decide +kernel
theorem d_prog_80_method_1_code_13 : decode prog_80_method_1_code 13 = .ok (.return_, 1) := by decide +kernel
theorem o_ef1 (m : MethodId) (a1 : Addr) : entryFrame m #[(.ref a1)] 1 = mkF m 0 #[.val (.ref a1)] [] := by first | (simp [entryFrame, mkF, argsToLocals, Value.category]; done) | rfl
theorem o_pn0 : plainName "com/example/estim365/estim365/formats/BytesOut" = true := by first | (simp [plainName, overriddenIn]; done) | decide +kernel
set_option maxRecDepth 65536 in
set_option maxHeartbeats 40000000 in
theorem c_init (l : Launch) (Z : State) (a0 : Array Value) (hw : ∀ d ∈ tables_1, d.before a0 Z = true) (a1 : Addr) (h0 : Heap) (n0 : Nat) (Z0 : n0 ≤ h0.size) (pg_a1 : n0 ≤ a1) (pE_a1 : Exa Z h0 a1 "com/example/estim365/estim365/formats/BytesOut") (pF_a1_bytes : Fld Z h0 a1 "com/example/estim365/estim365/formats/BytesOut" "bytes" "[B" .null) (pF_a1_length : Fld Z h0 a1 "com/example/estim365/estim365/formats/BytesOut" "length" "I" (.int (0 : Int32))) :
    Does l Z (⟨"com/example/estim365/estim365/formats/BytesOut", "<init>", "()V"⟩ : MethodName) prog_80_method_1_code 1 none [] ({ frames := 1, cells := 1, slots := 4096, locals := 12 } : Room) #[(.ref a1)] h0 (fun v h L => ∃ (n1 : Addr) (k1 : ClassId), v = none ∧ Fr n0 L ∧ Keep h0 h [a1] ∧ h0.size ≤ n1 ∧ Exa Z h a1 "com/example/estim365/estim365/formats/BytesOut" ∧ Fld Z h a1 "com/example/estim365/estim365/formats/BytesOut" "bytes" "[B" (.ref n1) ∧ Fld Z h a1 "com/example/estim365/estim365/formats/BytesOut" "length" "I" (.int (0 : Int32)) ∧ Arv Z h n1 k1 .byte (4096 : Int32) [] (.int (0 : Int32))) := by
  refine Does.of (plainFor_of_name o_pn0) ?_
  intro p e s m below meth c T0 hx hby hml hown hnm hret hlk hZ X0 e0
  have hown : s.vm.findClass "com/example/estim365/estim365/formats/BytesOut" = some m.cls := hown
  have hml : c.maxLocals = 1 := hml
  have hret : meth.sig.returnType = none := hret
  refine o_entry (o_ef1 m a1) ?_
  have N0 := Fr.nil n0
  refine o_aloadN X0 hx (hb hby d_prog_80_method_1_code_0) (v := (.ref a1)) rfl rfl (n := 1) rfl ?_
  refine o_initO X0 hx hZ hown (hw _ (List.mem_of_getElem? (i := 6) rfl)) (hw _ (List.mem_of_getElem? (i := 7) rfl)) (hw _ (List.mem_of_getElem? (i := 8) rfl)) e0 (by rw [hml]; rfl) (hb hby d_prog_80_method_1_code_1) (by decide) 0 (Nat.le_of_eq rfl) (by decide) (n := 4) rfl ?_
  intro T1 X1 e1
  refine o_aloadN X1 hx (hb hby d_prog_80_method_1_code_4) (v := (.ref a1)) rfl rfl (n := 5) rfl ?_
  refine o_sipush X1 hx (hb hby d_prog_80_method_1_code_5) (v := (4096 : Int32)) rfl (n := 8) rfl ?_
  refine o_newarray X1 hx hZ (aty := .byte) (hw _ (List.mem_of_getElem? (i := 9) rfl)) e1 (hb hby d_prog_80_method_1_code_8) (by decide) 4096 (by decide) (by decide) (by decide) (by decide) (n := 10) rfl ?_
  intro T2 h2 b2 k2 X2 e2 g2 E2 V2
  have ne3 : a1 ≠ b2 := Nat.ne_of_lt (Nat.lt_of_lt_of_eq pE_a1.lt g2.symm)
  have gg2 : n0 ≤ b2 := Nat.le_trans Z0 (Nat.le_of_eq g2.symm)
  have zz2 : n0 ≤ h2.size := Nat.le_trans Z0 E2.1
  have sz2 : h0.size ≤ b2 := Nat.le_trans (Keep.refl h0 [a1]).1 (Nat.le_of_eq g2.symm)
  have f4 := pE_a1.ext E2
  have f5 := pF_a1_bytes.ext E2
  have f6 := pF_a1_length.ext E2
  have K7 : Keep h0 h2 [a1] := (Keep.refl h0 [a1]).ext E2
  refine o_putfield X2 hx hZ hown (host := "") (Or.inl (hw _ (List.mem_of_getElem? (i := 10) rfl))) Via.refl e2 f5 f4 (Or.inl (hw _ (List.mem_of_getElem? (i := 11) rfl))) (hw _ (List.mem_of_getElem? (i := 1) rfl)) (ty := (.array .byte)) (by decide) rfl rfl (hb hby d_prog_80_method_1_code_10) (n := 13) rfl ?_
  intro T9 h9 X9 e9 W9 F9 E_9
  have f10 := f6.other W9 (Or.inr (slot_ne (Or.inl (hw _ (List.mem_of_getElem? (i := 22) rfl))) (Or.inl (hw _ (List.mem_of_getElem? (i := 11) rfl))) (by decide) (t := .int) (t' := (.array .byte)) (by decide) (by decide)))
  have f11 := V2.other W9 (Ne.symm ne3)
  have zz9 : n0 ≤ h9.size := Nat.le_trans zz2 (Nat.le_of_eq W9.size.symm)
  have N12 := Fr.snoc X9 N0 pg_a1
  have K13 : Keep h0 h9 [a1] := K7.wr W9 (Or.inl (List.mem_of_getElem? (i := 0) rfl))
  exact o_return X9 hx hret hlk (hb hby d_prog_80_method_1_code_13) (by decide) (by decide) e9 ⟨b2, k2, rfl, N12, K13, sz2, E_9, F9, f10, f11⟩
theorem d_jdk_29_method_24_code_0 : decode jdk_29_method_24_code 0 = .ok (.iload_n 0, 1) := by decide +kernel
theorem d_jdk_29_method_24_code_1 : decode jdk_29_method_24_code 1 = .ok (.iload_n 1, 1) := by decide +kernel
theorem d_jdk_29_method_24_code_2 : decode jdk_29_method_24_code 2 = .ok (.iadd, 1) := by decide +kernel
theorem d_jdk_29_method_24_code_3 : decode jdk_29_method_24_code 3 = .ok (.istore_n 2, 1) := by decide +kernel
theorem d_jdk_29_method_24_code_4 : decode jdk_29_method_24_code 4 = .ok (.iload_n 0, 1) := by decide +kernel
theorem d_jdk_29_method_24_code_5 : decode jdk_29_method_24_code 5 = .ok (.iload_n 2, 1) := by decide +kernel
theorem d_jdk_29_method_24_code_6 : decode jdk_29_method_24_code 6 = .ok (.ixor, 1) := by decide +kernel
theorem d_jdk_29_method_24_code_7 : decode jdk_29_method_24_code 7 = .ok (.iload_n 1, 1) := by decide +kernel
theorem d_jdk_29_method_24_code_8 : decode jdk_29_method_24_code 8 = .ok (.iload_n 2, 1) := by decide +kernel
theorem d_jdk_29_method_24_code_9 : decode jdk_29_method_24_code 9 = .ok (.ixor, 1) := by decide +kernel
theorem d_jdk_29_method_24_code_10 : decode jdk_29_method_24_code 10 = .ok (.iand, 1) := by decide +kernel
theorem d_jdk_29_method_24_code_11 : decode jdk_29_method_24_code 11 = .ok (.ifCond .ge 13, 3) := by decide +kernel
theorem d_jdk_29_method_24_code_24 : decode jdk_29_method_24_code 24 = .ok (.iload_n 2, 1) := by decide +kernel
theorem d_jdk_29_method_24_code_25 : decode jdk_29_method_24_code 25 = .ok (.ireturn, 1) := by decide +kernel
theorem o_ef2 (m : MethodId) (p0 : Int32) : entryFrame m #[(.int p0), (.int (10 : Int32))] 3 = mkF m 0 #[.val (.int p0), .val (.int (10 : Int32)), .unset] [] := by first | (simp [entryFrame, mkF, argsToLocals, Value.category]; done) | rfl
set_option maxRecDepth 65536 in
set_option maxHeartbeats 40000000 in
theorem c_addX (l : Launch) (Z : State) (a0 : Array Value) (hw : ∀ d ∈ tables_1, d.before a0 Z = true) (p0 : Int32) (h0 : Heap) (hok : ¬ ((p0 ^^^ (p0 + (10 : Int32))) &&& ((10 : Int32) ^^^ (p0 + (10 : Int32)))) < (0 : Int32)) :
    Does l Z (⟨"java/lang/Math", "addExact", "(II)I"⟩ : MethodName) jdk_29_method_24_code 3 (some .int) [] ({ frames := 0, cells := 0, slots := 0, locals := 0 } : Room) #[(.int p0), (.int (10 : Int32))] h0 (Pur h0 (.int (p0 + (10 : Int32)))) := by
  refine Does.of (Jvm.Free.JP.mathPlain rfl (by decide +kernel)) ?_
  intro p e s m below meth c T0 hx hby hml hown hnm hret hlk hZ X0 e0
  have hown : s.vm.findClass "java/lang/Math" = some m.cls := hown
  have hml : c.maxLocals = 3 := hml
  have hret : meth.sig.returnType = some .int := hret
  refine o_entry (o_ef2 m p0) ?_
  refine o_iloadN X0 hx (hb hby d_jdk_29_method_24_code_0) (v := p0) rfl (n := 1) rfl ?_
  refine o_iloadN X0 hx (hb hby d_jdk_29_method_24_code_1) (v := (10 : Int32)) rfl (n := 2) rfl ?_
  refine o_iadd X0 hx (hb hby d_jdk_29_method_24_code_2) (v := (p0 + (10 : Int32))) rfl (n := 3) rfl ?_
  refine o_istoreN X0 hx (hb hby d_jdk_29_method_24_code_3) (Ls' := #[.val (.int p0), .val (.int (10 : Int32)), .val (.int (p0 + (10 : Int32)))]) rfl (n := 4) rfl ?_
  refine o_iloadN X0 hx (hb hby d_jdk_29_method_24_code_4) (v := p0) rfl (n := 5) rfl ?_
  refine o_iloadN X0 hx (hb hby d_jdk_29_method_24_code_5) (v := (p0 + (10 : Int32))) rfl (n := 6) rfl ?_
  refine o_ixor X0 hx (hb hby d_jdk_29_method_24_code_6) (v := (p0 ^^^ (p0 + (10 : Int32)))) rfl (n := 7) rfl ?_
  refine o_iloadN X0 hx (hb hby d_jdk_29_method_24_code_7) (v := (10 : Int32)) rfl (n := 8) rfl ?_
  refine o_iloadN X0 hx (hb hby d_jdk_29_method_24_code_8) (v := (p0 + (10 : Int32))) rfl (n := 9) rfl ?_
  refine o_ixor X0 hx (hb hby d_jdk_29_method_24_code_9) (v := ((10 : Int32) ^^^ (p0 + (10 : Int32)))) rfl (n := 10) rfl ?_
  refine o_iand X0 hx (hb hby d_jdk_29_method_24_code_10) (v := ((p0 ^^^ (p0 + (10 : Int32))) &&& ((10 : Int32) ^^^ (p0 + (10 : Int32))))) rfl (n := 11) rfl ?_
  refine o_ifY X0 hx (hb hby d_jdk_29_method_24_code_11) (XT.i0_ge_t hok) (by decide) (n := 24) (by decide) ?_
  refine o_iloadN X0 hx (hb hby d_jdk_29_method_24_code_24) (v := (p0 + (10 : Int32))) rfl (n := 25) rfl ?_
  exact o_ireturn X0 hx hret hlk (hb hby d_jdk_29_method_24_code_25) (by decide) (by decide) e0 ⟨rfl, rfl, rfl⟩
theorem d_prog_80_method_11_code_0 : decode prog_80_method_11_code 0 = .ok (.aload_n 0, 1) := by decide +kernel
theorem d_prog_80_method_11_code_1 : decode prog_80_method_11_code 1 = .ok (.getfield 15, 3) := by decide +kernel
theorem d_prog_80_method_11_code_4 : decode prog_80_method_11_code 4 = .ok (.iload_n 1, 1) := by decide +kernel
theorem d_prog_80_method_11_code_5 : decode prog_80_method_11_code 5 = .ok (.invokestatic 92, 3) := by decide +kernel
theorem o_pd0 : parseMethodDescriptor "(II)I" = some ⟨[.int, .int], some .int⟩ := by decide +kernel
theorem d_prog_80_method_11_code_8 : decode prog_80_method_11_code 8 = .ok (.istore_n 2, 1) := by decide +kernel
theorem d_prog_80_method_11_code_9 : decode prog_80_method_11_code 9 = .ok (.iload_n 2, 1) := by decide +kernel
theorem d_prog_80_method_11_code_10 : decode prog_80_method_11_code 10 = .ok (.aload_n 0, 1) := by decide +kernel
theorem d_prog_80_method_11_code_11 : decode prog_80_method_11_code 11 = .ok (.getfield 11, 3) := by decide +kernel
theorem d_prog_80_method_11_code_14 : decode prog_80_method_11_code 14 = .ok (.arraylength, 1) := by decide +kernel
theorem d_prog_80_method_11_code_15 : decode prog_80_method_11_code 15 = .ok (.if_icmp .le 25, 3) := by decide +kernel
theorem d_prog_80_method_11_code_40 : decode prog_80_method_11_code 40 = .ok (.return_, 1) := by decide +kernel
theorem o_ef3 (m : MethodId) (a1 : Addr) : entryFrame m #[(.ref a1), (.int (10 : Int32))] 3 = mkF m 0 #[.val (.ref a1), .val (.int (10 : Int32)), .unset] [] := by first | (simp [entryFrame, mkF, argsToLocals, Value.category]; done) | rfl
set_option maxRecDepth 65536 in
set_option maxHeartbeats 40000000 in
theorem c_ensure (l : Launch) (Z : State) (a0 : Array Value) (hw : ∀ d ∈ tables_1, d.before a0 Z = true) (a1 : Addr) (a2 : Addr) (k2 : ClassId) (n : Nat) (vs : List Value) (h0 : Heap) (pF_a1_bytes : Fld Z h0 a1 "com/example/estim365/estim365/formats/BytesOut" "bytes" "[B" (.ref a2)) (pF_a1_length : Fld Z h0 a1 "com/example/estim365/estim365/formats/BytesOut" "length" "I" (.int (Int32.ofNat n))) (pV_a2 : Arv Z h0 a2 k2 .byte (4096 : Int32) vs (.int (0 : Int32))) (hn : n ≤ 20) :
    Does l Z (⟨"com/example/estim365/estim365/formats/BytesOut", "ensure", "(I)V"⟩ : MethodName) prog_80_method_11_code 3 none [] ({ frames := 1, cells := 0, slots := 0, locals := 14 } : Room) #[(.ref a1), (.int (10 : Int32))] h0 (fun v h L => v = none ∧ h = h0 ∧ L = []) := by
  refine Does.of (plainFor_of_name o_pn0) ?_
  intro p e s m below meth c T0 hx hby hml hown hnm hret hlk hZ X0 e0
  have hown : s.vm.findClass "com/example/estim365/estim365/formats/BytesOut" = some m.cls := hown
  have hml : c.maxLocals = 3 := hml
  have hret : meth.sig.returnType = none := hret
  refine o_entry (o_ef3 m a1) ?_
  refine o_aloadN X0 hx (hb hby d_prog_80_method_11_code_0) (v := (.ref a1)) rfl rfl (n := 1) rfl ?_
  refine o_getfield X0 hx hZ hown (host := "") (Or.inl (hw _ (List.mem_of_getElem? (i := 21) rfl))) Via.refl e0 pF_a1_length (hb hby d_prog_80_method_11_code_1) (n := 4) rfl ?_
  intro T1 X1 e1
  refine o_iloadN X1 hx (hb hby d_prog_80_method_11_code_4) (v := (10 : Int32)) rfl (n := 5) rfl ?_
  refine o_callS X1 hx hZ hown (hw _ (List.mem_of_getElem? (i := 23) rfl)) (hw _ (List.mem_of_getElem? (i := 24) rfl)) (hw _ (List.mem_of_getElem? (i := 25) rfl)) (hw _ (List.mem_of_getElem? (i := 26) rfl)) (by decide) e1 (argsL := [(.int (Int32.ofNat n)), (.int (10 : Int32))]) (rest := []) (c_addX l Z a0 hw (Int32.ofNat n) h0 (o_ok10 hn)) 0 (by decide) (by decide) (by decide) (by decide) (by rw [hml]; rfl) (lenOf o_pd0 rfl) rfl (Nat.le_of_eq rfl) (hb hby d_prog_80_method_11_code_5) (n := 8) rfl ?_
  intro v2 T2 L2 X2 q2
  obtain ⟨rfl, e2, rfl⟩ := q2
  show Goes p e below s _ _ _ (T2.setTop (mkF m 8 #[.val (.ref a1), .val (.int (10 : Int32)), .unset] [(.int (Int32.ofNat n + (10 : Int32)))]))
  refine o_istoreN X2 hx (hb hby d_prog_80_method_11_code_8) (Ls' := #[.val (.ref a1), .val (.int (10 : Int32)), .val (.int (Int32.ofNat n + (10 : Int32)))]) rfl (n := 9) rfl ?_
  refine o_iloadN X2 hx (hb hby d_prog_80_method_11_code_9) (v := (Int32.ofNat n + (10 : Int32))) rfl (n := 10) rfl ?_
  refine o_aloadN X2 hx (hb hby d_prog_80_method_11_code_10) (v := (.ref a1)) rfl rfl (n := 11) rfl ?_
  refine o_getfield X2 hx hZ hown (host := "") (Or.inl (hw _ (List.mem_of_getElem? (i := 10) rfl))) Via.refl e2 pF_a1_bytes (hb hby d_prog_80_method_11_code_11) (n := 14) rfl ?_
  intro T3 X3 e3
  refine o_arraylength X3 hx hZ e3 pV_a2 (hb hby d_prog_80_method_11_code_14) (n := 15) rfl ?_
  refine o_icmpY X3 hx (hb hby d_prog_80_method_11_code_15) (XT.ii_le_t (o_fit10 hn)) (by decide) (n := 40) (by decide) ?_
  exact o_return X3 hx hret hlk (hb hby d_prog_80_method_11_code_40) (by decide) (by decide) e3 ⟨rfl, rfl, rfl⟩
theorem d_prog_80_method_6_code_0 : decode prog_80_method_6_code 0 = .ok (.aload_n 0, 1) := by decide +kernel
theorem d_prog_80_method_6_code_1 : decode prog_80_method_6_code 1 = .ok (.bipush 10, 2) := by decide +kernel
theorem d_prog_80_method_6_code_3 : decode prog_80_method_6_code 3 = .ok (.invokevirtual 19, 3) := by decide +kernel
theorem o_pd1 : parseMethodDescriptor "(I)V" = some ⟨[.int], none⟩ := by decide +kernel
theorem d_prog_80_method_6_code_6 : decode prog_80_method_6_code 6 = .ok (.lload_n 1, 1) := by decide +kernel
theorem d_prog_80_method_6_code_7 : decode prog_80_method_6_code 7 = .ok (.iconst 1, 1) := by decide +kernel
theorem d_prog_80_method_6_code_8 : decode prog_80_method_6_code 8 = .ok (.lshl, 1) := by decide +kernel
theorem d_prog_80_method_6_code_9 : decode prog_80_method_6_code 9 = .ok (.lload_n 1, 1) := by decide +kernel
theorem d_prog_80_method_6_code_10 : decode prog_80_method_6_code 10 = .ok (.bipush 63, 2) := by decide +kernel
theorem d_prog_80_method_6_code_12 : decode prog_80_method_6_code 12 = .ok (.lshr, 1) := by decide +kernel
theorem d_prog_80_method_6_code_13 : decode prog_80_method_6_code 13 = .ok (.lxor, 1) := by decide +kernel
theorem d_prog_80_method_6_code_14 : decode prog_80_method_6_code 14 = .ok (.lstore_n 3, 1) := by decide +kernel
theorem d_prog_80_method_6_code_15 : decode prog_80_method_6_code 15 = .ok (.lload_n 3, 1) := by decide +kernel
theorem d_prog_80_method_6_code_16 : decode prog_80_method_6_code 16 = .ok (.ldc2_w 23, 3) := by decide +kernel
theorem d_prog_80_method_6_code_19 : decode prog_80_method_6_code 19 = .ok (.land, 1) := by decide +kernel
theorem d_prog_80_method_6_code_20 : decode prog_80_method_6_code 20 = .ok (.lconst 0, 1) := by decide +kernel
theorem d_prog_80_method_6_code_21 : decode prog_80_method_6_code 21 = .ok (.lcmp, 1) := by decide +kernel
theorem d_prog_80_method_6_code_22 : decode prog_80_method_6_code 22 = .ok (.ifCond .eq 38, 3) := by decide +kernel
theorem d_prog_80_method_6_code_60 : decode prog_80_method_6_code 60 = .ok (.aload_n 0, 1) := by decide +kernel
theorem d_prog_80_method_6_code_61 : decode prog_80_method_6_code 61 = .ok (.getfield 11, 3) := by decide +kernel
theorem d_prog_80_method_6_code_64 : decode prog_80_method_6_code 64 = .ok (.aload_n 0, 1) := by decide +kernel
theorem d_prog_80_method_6_code_65 : decode prog_80_method_6_code 65 = .ok (.dup, 1) := by decide +kernel
theorem d_prog_80_method_6_code_66 : decode prog_80_method_6_code 66 = .ok (.getfield 15, 3) := by decide +kernel
theorem d_prog_80_method_6_code_69 : decode prog_80_method_6_code 69 = .ok (.dup_x1, 1) := by decide +kernel
theorem d_prog_80_method_6_code_70 : decode prog_80_method_6_code 70 = .ok (.iconst 1, 1) := by decide +kernel
theorem d_prog_80_method_6_code_71 : decode prog_80_method_6_code 71 = .ok (.iadd, 1) := by decide +kernel
theorem d_prog_80_method_6_code_72 : decode prog_80_method_6_code 72 = .ok (.putfield 15, 3) := by decide +kernel
theorem d_prog_80_method_6_code_75 : decode prog_80_method_6_code 75 = .ok (.lload_n 3, 1) := by decide +kernel
theorem d_prog_80_method_6_code_76 : decode prog_80_method_6_code 76 = .ok (.l2i, 1) := by decide +kernel
theorem d_prog_80_method_6_code_77 : decode prog_80_method_6_code 77 = .ok (.i2b, 1) := by decide +kernel
theorem d_prog_80_method_6_code_78 : decode prog_80_method_6_code 78 = .ok (.bastore, 1) := by decide +kernel
theorem d_prog_80_method_6_code_79 : decode prog_80_method_6_code 79 = .ok (.return_, 1) := by decide +kernel
theorem d_prog_80_method_6_code_25 : decode prog_80_method_6_code 25 = .ok (.aload_n 0, 1) := by decide +kernel
theorem d_prog_80_method_6_code_26 : decode prog_80_method_6_code 26 = .ok (.getfield 11, 3) := by decide +kernel
theorem d_prog_80_method_6_code_29 : decode prog_80_method_6_code 29 = .ok (.aload_n 0, 1) := by decide +kernel
theorem d_prog_80_method_6_code_30 : decode prog_80_method_6_code 30 = .ok (.dup, 1) := by decide +kernel
theorem d_prog_80_method_6_code_31 : decode prog_80_method_6_code 31 = .ok (.getfield 15, 3) := by decide +kernel
theorem d_prog_80_method_6_code_34 : decode prog_80_method_6_code 34 = .ok (.dup_x1, 1) := by decide +kernel
theorem d_prog_80_method_6_code_35 : decode prog_80_method_6_code 35 = .ok (.iconst 1, 1) := by decide +kernel
theorem d_prog_80_method_6_code_36 : decode prog_80_method_6_code 36 = .ok (.iadd, 1) := by decide +kernel
theorem d_prog_80_method_6_code_37 : decode prog_80_method_6_code 37 = .ok (.putfield 15, 3) := by decide +kernel
theorem d_prog_80_method_6_code_40 : decode prog_80_method_6_code 40 = .ok (.lload_n 3, 1) := by decide +kernel
theorem d_prog_80_method_6_code_41 : decode prog_80_method_6_code 41 = .ok (.ldc2_w 25, 3) := by decide +kernel
theorem d_prog_80_method_6_code_44 : decode prog_80_method_6_code 44 = .ok (.land, 1) := by decide +kernel
theorem d_prog_80_method_6_code_45 : decode prog_80_method_6_code 45 = .ok (.ldc2_w 27, 3) := by decide +kernel
theorem d_prog_80_method_6_code_48 : decode prog_80_method_6_code 48 = .ok (.lor, 1) := by decide +kernel
theorem d_prog_80_method_6_code_49 : decode prog_80_method_6_code 49 = .ok (.l2i, 1) := by decide +kernel
theorem d_prog_80_method_6_code_50 : decode prog_80_method_6_code 50 = .ok (.i2b, 1) := by decide +kernel
theorem d_prog_80_method_6_code_51 : decode prog_80_method_6_code 51 = .ok (.bastore, 1) := by decide +kernel
theorem d_prog_80_method_6_code_52 : decode prog_80_method_6_code 52 = .ok (.lload_n 3, 1) := by decide +kernel
theorem d_prog_80_method_6_code_53 : decode prog_80_method_6_code 53 = .ok (.bipush 7, 2) := by decide +kernel
theorem d_prog_80_method_6_code_55 : decode prog_80_method_6_code 55 = .ok (.lushr, 1) := by decide +kernel
theorem d_prog_80_method_6_code_56 : decode prog_80_method_6_code 56 = .ok (.lstore_n 3, 1) := by decide +kernel
theorem d_prog_80_method_6_code_57 : decode prog_80_method_6_code 57 = .ok (.goto (-42), 3) := by decide +kernel
theorem o_ef4 (m : MethodId) (a1 : Addr) (p0 : Int64) : entryFrame m #[(.ref a1), (.long p0)] 5 = mkF m 0 #[.val (.ref a1), .val (.long p0), .second, .unset, .unset] [] := by first | (simp [entryFrame, mkF, argsToLocals, Value.category]; done) | rfl
set_option maxRecDepth 65536 in
set_option maxHeartbeats 40000000 in
theorem c_write (l : Launch) (Z : State) (a0 : Array Value) (hw : ∀ d ∈ tables_1, d.before a0 Z = true) (a1 : Addr) (a2 : Addr) (k2 : ClassId) (p0 : Int64) (ws : List Int32) (h0 : Heap) (n0 : Nat) (Z0 : n0 ≤ h0.size) (pg_a1 : n0 ≤ a1) (pg_a2 : n0 ≤ a2) (pE_a1 : Exa Z h0 a1 "com/example/estim365/estim365/formats/BytesOut") (pF_a1_bytes : Fld Z h0 a1 "com/example/estim365/estim365/formats/BytesOut" "bytes" "[B" (.ref a2)) (pF_a1_length : Fld Z h0 a1 "com/example/estim365/estim365/formats/BytesOut" "length" "I" (.int (Int32.ofNat ws.length))) (pV_a2 : Arv Z h0 a2 k2 .byte (4096 : Int32) (ws.map Value.int) (.int (0 : Int32))) (pne_a2_a1 : a2 ≠ a1) (hn : ws.length ≤ 10) :
    Does l Z (⟨"com/example/estim365/estim365/formats/BytesOut", "writeNumber", "(J)V"⟩ : MethodName) prog_80_method_6_code 5 none [] ({ frames := 2, cells := 0, slots := 0, locals := 28 } : Room) #[(.ref a1), (.long p0)] h0 (fun v h L => v = none ∧ Fr n0 L ∧ Keep h0 h [a1, a2] ∧ Exa Z h a1 "com/example/estim365/estim365/formats/BytesOut" ∧ Fld Z h a1 "com/example/estim365/estim365/formats/BytesOut" "bytes" "[B" (.ref a2) ∧ Fld Z h a1 "com/example/estim365/estim365/formats/BytesOut" "length" "I" (.int (Int32.ofNat (ws ++ o_enc 9 (o_zz p0)).length)) ∧ Arv Z h a2 k2 .byte (4096 : Int32) ((ws ++ o_enc 9 (o_zz p0)).map Value.int) (.int (0 : Int32))) := by
  refine Does.of (plainFor_of_name o_pn0) ?_
  intro p e s m below meth c T0 hx hby hml hown hnm hret hlk hZ X0 e0
  have hown : s.vm.findClass "com/example/estim365/estim365/formats/BytesOut" = some m.cls := hown
  have hml : c.maxLocals = 5 := hml
  have hret : meth.sig.returnType = none := hret
  refine o_entry (o_ef4 m a1 p0) ?_
  have N0 := Fr.nil n0
  have pV_a2 : Arv Z h0 a2 k2 .byte (4096 : Int32) ((ws ++ ([] : List Int32)).map Value.int) (.int (0 : Int32)) := by rw [List.append_nil]; exact pV_a2
  refine o_aloadN X0 hx (hb hby d_prog_80_method_6_code_0) (v := (.ref a1)) rfl rfl (n := 1) rfl ?_
  refine o_bipush X0 hx (hb hby d_prog_80_method_6_code_1) (v := (10 : Int32)) rfl (n := 3) rfl ?_
  refine o_callP X0 hx hZ hown (hw _ (List.mem_of_getElem? (i := 17) rfl)) (hw _ (List.mem_of_getElem? (i := 18) rfl)) (hw _ (List.mem_of_getElem? (i := 19) rfl)) (hw _ (List.mem_of_getElem? (i := 1) rfl)) (hw _ (List.mem_of_getElem? (i := 2) rfl)) (hw _ (List.mem_of_getElem? (i := 20) rfl)) (by decide) e0 pE_a1 (argsL := [(.int (10 : Int32))]) (rest := []) (c_ensure l Z a0 hw a1 a2 k2 ws.length ((ws ++ ([] : List Int32)).map Value.int) h0 pF_a1_bytes pF_a1_length pV_a2 (by omega)) 0 (by decide) (by decide) (by decide) (by decide) (by rw [hml]; rfl) (lenOf o_pd1 rfl) rfl (Nat.le_of_eq rfl) (hb hby d_prog_80_method_6_code_3) (n := 6) rfl ?_
  intro v1 T1 L1 X1 q1
  obtain ⟨rfl, e1, rfl⟩ := q1
  have N2 := Fr.app N0 (Fr.nil n0)
  show Goes p e below s _ _ _ (T1.setTop (mkF m 6 #[.val (.ref a1), .val (.long p0), .second, .unset, .unset] []))
  refine o_lloadN X1 hx (hb hby d_prog_80_method_6_code_6) (v := p0) rfl (n := 7) rfl ?_
  refine o_iconst X1 hx (hb hby d_prog_80_method_6_code_7) (v := (1 : Int32)) rfl (n := 8) rfl ?_
  refine o_lshl X1 hx (hb hby d_prog_80_method_6_code_8) (v := (p0 <<< (1 : Int64))) (congrArg (fun q : Int64 => p0 <<< q) (show ((1 : Int32) &&& 0x3f).toInt64 = 1 by decide)) (n := 9) rfl ?_
  refine o_lloadN X1 hx (hb hby d_prog_80_method_6_code_9) (v := p0) rfl (n := 10) rfl ?_
  refine o_bipush X1 hx (hb hby d_prog_80_method_6_code_10) (v := (63 : Int32)) rfl (n := 12) rfl ?_
  refine o_lshr X1 hx (hb hby d_prog_80_method_6_code_12) (v := (p0 >>> (63 : Int64))) (congrArg (fun q : Int64 => p0 >>> q) (show ((63 : Int32) &&& 0x3f).toInt64 = 63 by decide)) (n := 13) rfl ?_
  refine o_lxor X1 hx (hb hby d_prog_80_method_6_code_13) (v := (o_zz p0)) rfl (n := 14) rfl ?_
  refine o_lstoreN X1 hx (hb hby d_prog_80_method_6_code_14) (Ls' := #[.val (.ref a1), .val (.long p0), .second, .val (.long (o_zz p0)), .second]) rfl (n := 15) rfl ?_
  refine o_lloadN X1 hx (hb hby d_prog_80_method_6_code_15) (v := (o_zz p0)) rfl (n := 16) rfl ?_
  refine o_ldc2_w X1 hx hZ (v := (-128 : Int64)) hown (hw _ (List.mem_of_getElem? (i := 27) rfl)) (hb hby d_prog_80_method_6_code_16) (n := 19) rfl ?_
  refine o_land X1 hx (hb hby d_prog_80_method_6_code_19) (v := ((o_zz p0) &&& (-128 : Int64))) rfl (n := 20) rfl ?_
  refine o_lconst X1 hx (hb hby d_prog_80_method_6_code_20) (v := (0 : Int64)) rfl (n := 21) rfl ?_
  refine o_lcmp X1 hx (hb hby d_prog_80_method_6_code_21) (n := 22) rfl ?_
  by_cases hc22 : ((o_zz p0) &&& (-128 : Int64)) = (0 : Int64)
  · refine o_ifY X1 hx (hb hby d_prog_80_method_6_code_22) (XT.ll_eq_t hc22) (by decide) (n := 60) (by decide) ?_
    refine o_aloadN X1 hx (hb hby d_prog_80_method_6_code_60) (v := (.ref a1)) rfl rfl (n := 61) rfl ?_
    refine o_getfield X1 hx hZ hown (host := "") (Or.inl (hw _ (List.mem_of_getElem? (i := 10) rfl))) Via.refl e1 pF_a1_bytes (hb hby d_prog_80_method_6_code_61) (n := 64) rfl ?_
    intro T3 X3 e3
    refine o_aloadN X3 hx (hb hby d_prog_80_method_6_code_64) (v := (.ref a1)) rfl rfl (n := 65) rfl ?_
    refine o_dup X3 hx (hb hby d_prog_80_method_6_code_65) rfl (n := 66) rfl ?_
    refine o_getfield X3 hx hZ hown (host := "") (Or.inl (hw _ (List.mem_of_getElem? (i := 21) rfl))) Via.refl e3 pF_a1_length (hb hby d_prog_80_method_6_code_66) (n := 69) rfl ?_
    intro T4 X4 e4
    refine o_dup_x1 X4 hx (hb hby d_prog_80_method_6_code_69) rfl rfl (n := 70) rfl ?_
    refine o_iconst X4 hx (hb hby d_prog_80_method_6_code_70) (v := (1 : Int32)) rfl (n := 71) rfl ?_
    refine o_iadd X4 hx (hb hby d_prog_80_method_6_code_71) (v := (Int32.ofNat (ws.length + 1))) (o_suc _) (n := 72) rfl ?_
    refine o_putfield X4 hx hZ hown (host := "") (Or.inl (hw _ (List.mem_of_getElem? (i := 21) rfl))) Via.refl e4 pF_a1_length pE_a1 (Or.inl (hw _ (List.mem_of_getElem? (i := 22) rfl))) (hw _ (List.mem_of_getElem? (i := 1) rfl)) (ty := .int) (by decide) rfl rfl (hb hby d_prog_80_method_6_code_72) (n := 75) rfl ?_
    intro T5 h5 X5 e5 W5 F5 E_5
    have f6 := pF_a1_bytes.other W5 (Or.inr (slot_ne (Or.inl (hw _ (List.mem_of_getElem? (i := 11) rfl))) (Or.inl (hw _ (List.mem_of_getElem? (i := 22) rfl))) (by decide) (t := (.array .byte)) (t' := .int) (by decide) (by decide)))
    have f7 := pV_a2.other W5 pne_a2_a1
    have zz5 : n0 ≤ h5.size := Nat.le_trans Z0 (Nat.le_of_eq W5.size.symm)
    have N8 := Fr.snoc X5 N2 pg_a1
    have K9 : Keep h0 h5 [a1, a2] := (Keep.refl h0 [a1, a2]).wr W5 (Or.inl (List.mem_of_getElem? (i := 0) rfl))
    refine o_lloadN X5 hx (hb hby d_prog_80_method_6_code_75) (v := (o_zz p0)) rfl (n := 76) rfl ?_
    refine o_l2i X5 hx (hb hby d_prog_80_method_6_code_76) (v := (o_zz p0).toInt32) rfl (n := 77) rfl ?_
    refine o_i2b X5 hx (hb hby d_prog_80_method_6_code_77) (v := (o_lb (o_zz p0))) rfl (n := 78) rfl ?_
    have f11 := f7.pad (pad_rep _ _ 1)
    refine o_bastore X5 hx hZ e5 f11 ((ws.length + 0)) (o_tn (by omega)) (o_rg (by omega)) (by simp) (w := (.int (o_lb (o_zz p0)))) (congrArg Value.int (o_nar8 _)) (vs' := ((ws ++ [(o_lb (o_zz p0))]).map Value.int)) (o_set ws [] _ 0 rfl) (hb hby d_prog_80_method_6_code_78) (n := 79) rfl ?_
    intro T10 h10 X10 e10 W10 V10
    have f12 := E_5.wr W10
    have f13 := f6.other W10 (Or.inl (Ne.symm pne_a2_a1))
    have f14 := F5.other W10 (Or.inl (Ne.symm pne_a2_a1))
    have zz10 : n0 ≤ h10.size := Nat.le_trans zz5 (Nat.le_of_eq W10.size.symm)
    have N15 := Fr.snoc X10 N8 pg_a2
    have K16 : Keep h0 h10 [a1, a2] := K9.wr W10 (Or.inl (List.mem_of_getElem? (i := 1) rfl))
    have hE : o_enc 9 (o_zz p0) = [(o_lb (o_zz p0))] := by simp [o_enc, hc22]
    have fV : Arv Z h10 a2 k2 .byte (4096 : Int32) ((ws ++ o_enc 9 (o_zz p0)).map Value.int) (.int (0 : Int32)) := by rw [hE]; exact V10
    have fL : Fld Z h10 a1 "com/example/estim365/estim365/formats/BytesOut" "length" "I" (.int (Int32.ofNat (ws ++ o_enc 9 (o_zz p0)).length)) := by rw [hE, List.length_append]; exact f14
    exact o_return X10 hx hret hlk (hb hby d_prog_80_method_6_code_79) (by decide) (by decide) e10 ⟨rfl, N15, K16, f12, f13, fL, fV⟩
  · refine o_ifN X1 hx (hb hby d_prog_80_method_6_code_22) (XT.ll_eq_f hc22) (n := 25) rfl ?_
    refine o_aloadN X1 hx (hb hby d_prog_80_method_6_code_25) (v := (.ref a1)) rfl rfl (n := 26) rfl ?_
    refine o_getfield X1 hx hZ hown (host := "") (Or.inl (hw _ (List.mem_of_getElem? (i := 10) rfl))) Via.refl e1 pF_a1_bytes (hb hby d_prog_80_method_6_code_26) (n := 29) rfl ?_
    intro T17 X17 e17
    refine o_aloadN X17 hx (hb hby d_prog_80_method_6_code_29) (v := (.ref a1)) rfl rfl (n := 30) rfl ?_
    refine o_dup X17 hx (hb hby d_prog_80_method_6_code_30) rfl (n := 31) rfl ?_
    refine o_getfield X17 hx hZ hown (host := "") (Or.inl (hw _ (List.mem_of_getElem? (i := 21) rfl))) Via.refl e17 pF_a1_length (hb hby d_prog_80_method_6_code_31) (n := 34) rfl ?_
    intro T18 X18 e18
    refine o_dup_x1 X18 hx (hb hby d_prog_80_method_6_code_34) rfl rfl (n := 35) rfl ?_
    refine o_iconst X18 hx (hb hby d_prog_80_method_6_code_35) (v := (1 : Int32)) rfl (n := 36) rfl ?_
    refine o_iadd X18 hx (hb hby d_prog_80_method_6_code_36) (v := (Int32.ofNat (ws.length + 1))) (o_suc _) (n := 37) rfl ?_
    refine o_putfield X18 hx hZ hown (host := "") (Or.inl (hw _ (List.mem_of_getElem? (i := 21) rfl))) Via.refl e18 pF_a1_length pE_a1 (Or.inl (hw _ (List.mem_of_getElem? (i := 22) rfl))) (hw _ (List.mem_of_getElem? (i := 1) rfl)) (ty := .int) (by decide) rfl rfl (hb hby d_prog_80_method_6_code_37) (n := 40) rfl ?_
    intro T19 h19 X19 e19 W19 F19 E_19
    have f20 := pF_a1_bytes.other W19 (Or.inr (slot_ne (Or.inl (hw _ (List.mem_of_getElem? (i := 11) rfl))) (Or.inl (hw _ (List.mem_of_getElem? (i := 22) rfl))) (by decide) (t := (.array .byte)) (t' := .int) (by decide) (by decide)))
    have f21 := pV_a2.other W19 pne_a2_a1
    have zz19 : n0 ≤ h19.size := Nat.le_trans Z0 (Nat.le_of_eq W19.size.symm)
    have N22 := Fr.snoc X19 N2 pg_a1
    have K23 : Keep h0 h19 [a1, a2] := (Keep.refl h0 [a1, a2]).wr W19 (Or.inl (List.mem_of_getElem? (i := 0) rfl))
    refine o_lloadN X19 hx (hb hby d_prog_80_method_6_code_40) (v := (o_zz p0)) rfl (n := 41) rfl ?_
    refine o_ldc2_w X19 hx hZ (v := (127 : Int64)) hown (hw _ (List.mem_of_getElem? (i := 60) rfl)) (hb hby d_prog_80_method_6_code_41) (n := 44) rfl ?_
    refine o_land X19 hx (hb hby d_prog_80_method_6_code_44) (v := ((o_zz p0) &&& (127 : Int64))) rfl (n := 45) rfl ?_
    refine o_ldc2_w X19 hx hZ (v := (128 : Int64)) hown (hw _ (List.mem_of_getElem? (i := 61) rfl)) (hb hby d_prog_80_method_6_code_45) (n := 48) rfl ?_
    refine o_lor X19 hx (hb hby d_prog_80_method_6_code_48) (v := (((o_zz p0) &&& (127 : Int64)) ||| (128 : Int64))) rfl (n := 49) rfl ?_
    refine o_l2i X19 hx (hb hby d_prog_80_method_6_code_49) (v := (((o_zz p0) &&& (127 : Int64)) ||| (128 : Int64)).toInt32) rfl (n := 50) rfl ?_
    refine o_i2b X19 hx (hb hby d_prog_80_method_6_code_50) (v := (o_mb (o_zz p0))) rfl (n := 51) rfl ?_
    have f25 := f21.pad (pad_rep _ _ 1)
    refine o_bastore X19 hx hZ e19 f25 ((ws.length + 0)) (o_tn (by omega)) (o_rg (by omega)) (by simp) (w := (.int (o_mb (o_zz p0)))) (congrArg Value.int (o_nar8 _)) (vs' := ((ws ++ [(o_mb (o_zz p0))]).map Value.int)) (o_set ws [] _ 0 rfl) (hb hby d_prog_80_method_6_code_51) (n := 52) rfl ?_
    intro T24 h24 X24 e24 W24 V24
    have f26 := E_19.wr W24
    have f27 := f20.other W24 (Or.inl (Ne.symm pne_a2_a1))
    have f28 := F19.other W24 (Or.inl (Ne.symm pne_a2_a1))
    have zz24 : n0 ≤ h24.size := Nat.le_trans zz19 (Nat.le_of_eq W24.size.symm)
    have N29 := Fr.snoc X24 N22 pg_a2
    have K30 : Keep h0 h24 [a1, a2] := K23.wr W24 (Or.inl (List.mem_of_getElem? (i := 1) rfl))
    refine o_lloadN X24 hx (hb hby d_prog_80_method_6_code_52) (v := (o_zz p0)) rfl (n := 53) rfl ?_
    refine o_bipush X24 hx (hb hby d_prog_80_method_6_code_53) (v := (7 : Int32)) rfl (n := 55) rfl ?_
    refine o_lushr X24 hx (hb hby d_prog_80_method_6_code_55) (v := (o_sh (o_zz p0))) rfl (n := 56) rfl ?_
    refine o_lstoreN X24 hx (hb hby d_prog_80_method_6_code_56) (Ls' := #[.val (.ref a1), .val (.long p0), .second, .val (.long (o_sh (o_zz p0))), .second]) rfl (n := 57) rfl ?_
    refine o_goto X24 hx (hb hby d_prog_80_method_6_code_57) (by decide) (n := 15) (by decide) ?_
    refine o_lloadN X24 hx (hb hby d_prog_80_method_6_code_15) (v := (o_sh (o_zz p0))) rfl (n := 16) rfl ?_
    refine o_ldc2_w X24 hx hZ (v := (-128 : Int64)) hown (hw _ (List.mem_of_getElem? (i := 27) rfl)) (hb hby d_prog_80_method_6_code_16) (n := 19) rfl ?_
    refine o_land X24 hx (hb hby d_prog_80_method_6_code_19) (v := ((o_sh (o_zz p0)) &&& (-128 : Int64))) rfl (n := 20) rfl ?_
    refine o_lconst X24 hx (hb hby d_prog_80_method_6_code_20) (v := (0 : Int64)) rfl (n := 21) rfl ?_
    refine o_lcmp X24 hx (hb hby d_prog_80_method_6_code_21) (n := 22) rfl ?_
    by_cases hc22_1 : ((o_sh (o_zz p0)) &&& (-128 : Int64)) = (0 : Int64)
    · refine o_ifY X24 hx (hb hby d_prog_80_method_6_code_22) (XT.ll_eq_t hc22_1) (by decide) (n := 60) (by decide) ?_
      refine o_aloadN X24 hx (hb hby d_prog_80_method_6_code_60) (v := (.ref a1)) rfl rfl (n := 61) rfl ?_
      refine o_getfield X24 hx hZ hown (host := "") (Or.inl (hw _ (List.mem_of_getElem? (i := 10) rfl))) Via.refl e24 f27 (hb hby d_prog_80_method_6_code_61) (n := 64) rfl ?_
      intro T31 X31 e31
      refine o_aloadN X31 hx (hb hby d_prog_80_method_6_code_64) (v := (.ref a1)) rfl rfl (n := 65) rfl ?_
      refine o_dup X31 hx (hb hby d_prog_80_method_6_code_65) rfl (n := 66) rfl ?_
      refine o_getfield X31 hx hZ hown (host := "") (Or.inl (hw _ (List.mem_of_getElem? (i := 21) rfl))) Via.refl e31 f28 (hb hby d_prog_80_method_6_code_66) (n := 69) rfl ?_
      intro T32 X32 e32
      refine o_dup_x1 X32 hx (hb hby d_prog_80_method_6_code_69) rfl rfl (n := 70) rfl ?_
      refine o_iconst X32 hx (hb hby d_prog_80_method_6_code_70) (v := (1 : Int32)) rfl (n := 71) rfl ?_
      refine o_iadd X32 hx (hb hby d_prog_80_method_6_code_71) (v := (Int32.ofNat (ws.length + 2))) (o_suc _) (n := 72) rfl ?_
      refine o_putfield X32 hx hZ hown (host := "") (Or.inl (hw _ (List.mem_of_getElem? (i := 21) rfl))) Via.refl e32 f28 f26 (Or.inl (hw _ (List.mem_of_getElem? (i := 22) rfl))) (hw _ (List.mem_of_getElem? (i := 1) rfl)) (ty := .int) (by decide) rfl rfl (hb hby d_prog_80_method_6_code_72) (n := 75) rfl ?_
      intro T33 h33 X33 e33 W33 F33 E_33
      have f34 := f27.other W33 (Or.inr (slot_ne (Or.inl (hw _ (List.mem_of_getElem? (i := 11) rfl))) (Or.inl (hw _ (List.mem_of_getElem? (i := 22) rfl))) (by decide) (t := (.array .byte)) (t' := .int) (by decide) (by decide)))
      have f35 := V24.other W33 pne_a2_a1
      have zz33 : n0 ≤ h33.size := Nat.le_trans zz24 (Nat.le_of_eq W33.size.symm)
      have N36 := Fr.snoc X33 N29 pg_a1
      have K37 : Keep h0 h33 [a1, a2] := K30.wr W33 (Or.inl (List.mem_of_getElem? (i := 0) rfl))
      refine o_lloadN X33 hx (hb hby d_prog_80_method_6_code_75) (v := (o_sh (o_zz p0))) rfl (n := 76) rfl ?_
      refine o_l2i X33 hx (hb hby d_prog_80_method_6_code_76) (v := (o_sh (o_zz p0)).toInt32) rfl (n := 77) rfl ?_
      refine o_i2b X33 hx (hb hby d_prog_80_method_6_code_77) (v := (o_lb (o_sh (o_zz p0)))) rfl (n := 78) rfl ?_
      have f39 := f35.pad (pad_rep _ _ 1)
      refine o_bastore X33 hx hZ e33 f39 ((ws.length + 1)) (o_tn (by omega)) (o_rg (by omega)) (by simp) (w := (.int (o_lb (o_sh (o_zz p0))))) (congrArg Value.int (o_nar8 _)) (vs' := ((ws ++ [(o_mb (o_zz p0)), (o_lb (o_sh (o_zz p0)))]).map Value.int)) (o_set ws [(o_mb (o_zz p0))] _ 1 rfl) (hb hby d_prog_80_method_6_code_78) (n := 79) rfl ?_
      intro T38 h38 X38 e38 W38 V38
      have f40 := E_33.wr W38
      have f41 := f34.other W38 (Or.inl (Ne.symm pne_a2_a1))
      have f42 := F33.other W38 (Or.inl (Ne.symm pne_a2_a1))
      have zz38 : n0 ≤ h38.size := Nat.le_trans zz33 (Nat.le_of_eq W38.size.symm)
      have N43 := Fr.snoc X38 N36 pg_a2
      have K44 : Keep h0 h38 [a1, a2] := K37.wr W38 (Or.inl (List.mem_of_getElem? (i := 1) rfl))
      have hE : o_enc 9 (o_zz p0) = [(o_mb (o_zz p0)), (o_lb (o_sh (o_zz p0)))] := by simp [o_enc, hc22, hc22_1]
      have fV : Arv Z h38 a2 k2 .byte (4096 : Int32) ((ws ++ o_enc 9 (o_zz p0)).map Value.int) (.int (0 : Int32)) := by rw [hE]; exact V38
      have fL : Fld Z h38 a1 "com/example/estim365/estim365/formats/BytesOut" "length" "I" (.int (Int32.ofNat (ws ++ o_enc 9 (o_zz p0)).length)) := by rw [hE, List.length_append]; exact f42
      exact o_return X38 hx hret hlk (hb hby d_prog_80_method_6_code_79) (by decide) (by decide) e38 ⟨rfl, N43, K44, f40, f41, fL, fV⟩
    · refine o_ifN X24 hx (hb hby d_prog_80_method_6_code_22) (XT.ll_eq_f hc22_1) (n := 25) rfl ?_
      refine o_aloadN X24 hx (hb hby d_prog_80_method_6_code_25) (v := (.ref a1)) rfl rfl (n := 26) rfl ?_
      refine o_getfield X24 hx hZ hown (host := "") (Or.inl (hw _ (List.mem_of_getElem? (i := 10) rfl))) Via.refl e24 f27 (hb hby d_prog_80_method_6_code_26) (n := 29) rfl ?_
      intro T45 X45 e45
      refine o_aloadN X45 hx (hb hby d_prog_80_method_6_code_29) (v := (.ref a1)) rfl rfl (n := 30) rfl ?_
      refine o_dup X45 hx (hb hby d_prog_80_method_6_code_30) rfl (n := 31) rfl ?_
      refine o_getfield X45 hx hZ hown (host := "") (Or.inl (hw _ (List.mem_of_getElem? (i := 21) rfl))) Via.refl e45 f28 (hb hby d_prog_80_method_6_code_31) (n := 34) rfl ?_
      intro T46 X46 e46
      refine o_dup_x1 X46 hx (hb hby d_prog_80_method_6_code_34) rfl rfl (n := 35) rfl ?_
      refine o_iconst X46 hx (hb hby d_prog_80_method_6_code_35) (v := (1 : Int32)) rfl (n := 36) rfl ?_
      refine o_iadd X46 hx (hb hby d_prog_80_method_6_code_36) (v := (Int32.ofNat (ws.length + 2))) (o_suc _) (n := 37) rfl ?_
      refine o_putfield X46 hx hZ hown (host := "") (Or.inl (hw _ (List.mem_of_getElem? (i := 21) rfl))) Via.refl e46 f28 f26 (Or.inl (hw _ (List.mem_of_getElem? (i := 22) rfl))) (hw _ (List.mem_of_getElem? (i := 1) rfl)) (ty := .int) (by decide) rfl rfl (hb hby d_prog_80_method_6_code_37) (n := 40) rfl ?_
      intro T47 h47 X47 e47 W47 F47 E_47
      have f48 := f27.other W47 (Or.inr (slot_ne (Or.inl (hw _ (List.mem_of_getElem? (i := 11) rfl))) (Or.inl (hw _ (List.mem_of_getElem? (i := 22) rfl))) (by decide) (t := (.array .byte)) (t' := .int) (by decide) (by decide)))
      have f49 := V24.other W47 pne_a2_a1
      have zz47 : n0 ≤ h47.size := Nat.le_trans zz24 (Nat.le_of_eq W47.size.symm)
      have N50 := Fr.snoc X47 N29 pg_a1
      have K51 : Keep h0 h47 [a1, a2] := K30.wr W47 (Or.inl (List.mem_of_getElem? (i := 0) rfl))
      refine o_lloadN X47 hx (hb hby d_prog_80_method_6_code_40) (v := (o_sh (o_zz p0))) rfl (n := 41) rfl ?_
      refine o_ldc2_w X47 hx hZ (v := (127 : Int64)) hown (hw _ (List.mem_of_getElem? (i := 60) rfl)) (hb hby d_prog_80_method_6_code_41) (n := 44) rfl ?_
      refine o_land X47 hx (hb hby d_prog_80_method_6_code_44) (v := ((o_sh (o_zz p0)) &&& (127 : Int64))) rfl (n := 45) rfl ?_
      refine o_ldc2_w X47 hx hZ (v := (128 : Int64)) hown (hw _ (List.mem_of_getElem? (i := 61) rfl)) (hb hby d_prog_80_method_6_code_45) (n := 48) rfl ?_
      refine o_lor X47 hx (hb hby d_prog_80_method_6_code_48) (v := (((o_sh (o_zz p0)) &&& (127 : Int64)) ||| (128 : Int64))) rfl (n := 49) rfl ?_
      refine o_l2i X47 hx (hb hby d_prog_80_method_6_code_49) (v := (((o_sh (o_zz p0)) &&& (127 : Int64)) ||| (128 : Int64)).toInt32) rfl (n := 50) rfl ?_
      refine o_i2b X47 hx (hb hby d_prog_80_method_6_code_50) (v := (o_mb (o_sh (o_zz p0)))) rfl (n := 51) rfl ?_
      have f53 := f49.pad (pad_rep _ _ 1)
      refine o_bastore X47 hx hZ e47 f53 ((ws.length + 1)) (o_tn (by omega)) (o_rg (by omega)) (by simp) (w := (.int (o_mb (o_sh (o_zz p0))))) (congrArg Value.int (o_nar8 _)) (vs' := ((ws ++ [(o_mb (o_zz p0)), (o_mb (o_sh (o_zz p0)))]).map Value.int)) (o_set ws [(o_mb (o_zz p0))] _ 1 rfl) (hb hby d_prog_80_method_6_code_51) (n := 52) rfl ?_
      intro T52 h52 X52 e52 W52 V52
      have f54 := E_47.wr W52
      have f55 := f48.other W52 (Or.inl (Ne.symm pne_a2_a1))
      have f56 := F47.other W52 (Or.inl (Ne.symm pne_a2_a1))
      have zz52 : n0 ≤ h52.size := Nat.le_trans zz47 (Nat.le_of_eq W52.size.symm)
      have N57 := Fr.snoc X52 N50 pg_a2
      have K58 : Keep h0 h52 [a1, a2] := K51.wr W52 (Or.inl (List.mem_of_getElem? (i := 1) rfl))
      refine o_lloadN X52 hx (hb hby d_prog_80_method_6_code_52) (v := (o_sh (o_zz p0))) rfl (n := 53) rfl ?_
      refine o_bipush X52 hx (hb hby d_prog_80_method_6_code_53) (v := (7 : Int32)) rfl (n := 55) rfl ?_
      refine o_lushr X52 hx (hb hby d_prog_80_method_6_code_55) (v := (o_sh (o_sh (o_zz p0)))) rfl (n := 56) rfl ?_
      refine o_lstoreN X52 hx (hb hby d_prog_80_method_6_code_56) (Ls' := #[.val (.ref a1), .val (.long p0), .second, .val (.long (o_sh (o_sh (o_zz p0)))), .second]) rfl (n := 57) rfl ?_
      refine o_goto X52 hx (hb hby d_prog_80_method_6_code_57) (by decide) (n := 15) (by decide) ?_
      refine o_lloadN X52 hx (hb hby d_prog_80_method_6_code_15) (v := (o_sh (o_sh (o_zz p0)))) rfl (n := 16) rfl ?_
      refine o_ldc2_w X52 hx hZ (v := (-128 : Int64)) hown (hw _ (List.mem_of_getElem? (i := 27) rfl)) (hb hby d_prog_80_method_6_code_16) (n := 19) rfl ?_
      refine o_land X52 hx (hb hby d_prog_80_method_6_code_19) (v := ((o_sh (o_sh (o_zz p0))) &&& (-128 : Int64))) rfl (n := 20) rfl ?_
      refine o_lconst X52 hx (hb hby d_prog_80_method_6_code_20) (v := (0 : Int64)) rfl (n := 21) rfl ?_
      refine o_lcmp X52 hx (hb hby d_prog_80_method_6_code_21) (n := 22) rfl ?_
      by_cases hc22_2 : ((o_sh (o_sh (o_zz p0))) &&& (-128 : Int64)) = (0 : Int64)
      · refine o_ifY X52 hx (hb hby d_prog_80_method_6_code_22) (XT.ll_eq_t hc22_2) (by decide) (n := 60) (by decide) ?_
        refine o_aloadN X52 hx (hb hby d_prog_80_method_6_code_60) (v := (.ref a1)) rfl rfl (n := 61) rfl ?_
        refine o_getfield X52 hx hZ hown (host := "") (Or.inl (hw _ (List.mem_of_getElem? (i := 10) rfl))) Via.refl e52 f55 (hb hby d_prog_80_method_6_code_61) (n := 64) rfl ?_
        intro T59 X59 e59
        refine o_aloadN X59 hx (hb hby d_prog_80_method_6_code_64) (v := (.ref a1)) rfl rfl (n := 65) rfl ?_
        refine o_dup X59 hx (hb hby d_prog_80_method_6_code_65) rfl (n := 66) rfl ?_
        refine o_getfield X59 hx hZ hown (host := "") (Or.inl (hw _ (List.mem_of_getElem? (i := 21) rfl))) Via.refl e59 f56 (hb hby d_prog_80_method_6_code_66) (n := 69) rfl ?_
        intro T60 X60 e60
        refine o_dup_x1 X60 hx (hb hby d_prog_80_method_6_code_69) rfl rfl (n := 70) rfl ?_
        refine o_iconst X60 hx (hb hby d_prog_80_method_6_code_70) (v := (1 : Int32)) rfl (n := 71) rfl ?_
        refine o_iadd X60 hx (hb hby d_prog_80_method_6_code_71) (v := (Int32.ofNat (ws.length + 3))) (o_suc _) (n := 72) rfl ?_
        refine o_putfield X60 hx hZ hown (host := "") (Or.inl (hw _ (List.mem_of_getElem? (i := 21) rfl))) Via.refl e60 f56 f54 (Or.inl (hw _ (List.mem_of_getElem? (i := 22) rfl))) (hw _ (List.mem_of_getElem? (i := 1) rfl)) (ty := .int) (by decide) rfl rfl (hb hby d_prog_80_method_6_code_72) (n := 75) rfl ?_
        intro T61 h61 X61 e61 W61 F61 E_61
        have f62 := f55.other W61 (Or.inr (slot_ne (Or.inl (hw _ (List.mem_of_getElem? (i := 11) rfl))) (Or.inl (hw _ (List.mem_of_getElem? (i := 22) rfl))) (by decide) (t := (.array .byte)) (t' := .int) (by decide) (by decide)))
        have f63 := V52.other W61 pne_a2_a1
        have zz61 : n0 ≤ h61.size := Nat.le_trans zz52 (Nat.le_of_eq W61.size.symm)
        have N64 := Fr.snoc X61 N57 pg_a1
        have K65 : Keep h0 h61 [a1, a2] := K58.wr W61 (Or.inl (List.mem_of_getElem? (i := 0) rfl))
        refine o_lloadN X61 hx (hb hby d_prog_80_method_6_code_75) (v := (o_sh (o_sh (o_zz p0)))) rfl (n := 76) rfl ?_
        refine o_l2i X61 hx (hb hby d_prog_80_method_6_code_76) (v := (o_sh (o_sh (o_zz p0))).toInt32) rfl (n := 77) rfl ?_
        refine o_i2b X61 hx (hb hby d_prog_80_method_6_code_77) (v := (o_lb (o_sh (o_sh (o_zz p0))))) rfl (n := 78) rfl ?_
        have f67 := f63.pad (pad_rep _ _ 1)
        refine o_bastore X61 hx hZ e61 f67 ((ws.length + 2)) (o_tn (by omega)) (o_rg (by omega)) (by simp) (w := (.int (o_lb (o_sh (o_sh (o_zz p0)))))) (congrArg Value.int (o_nar8 _)) (vs' := ((ws ++ [(o_mb (o_zz p0)), (o_mb (o_sh (o_zz p0))), (o_lb (o_sh (o_sh (o_zz p0))))]).map Value.int)) (o_set ws [(o_mb (o_zz p0)), (o_mb (o_sh (o_zz p0)))] _ 2 rfl) (hb hby d_prog_80_method_6_code_78) (n := 79) rfl ?_
        intro T66 h66 X66 e66 W66 V66
        have f68 := E_61.wr W66
        have f69 := f62.other W66 (Or.inl (Ne.symm pne_a2_a1))
        have f70 := F61.other W66 (Or.inl (Ne.symm pne_a2_a1))
        have zz66 : n0 ≤ h66.size := Nat.le_trans zz61 (Nat.le_of_eq W66.size.symm)
        have N71 := Fr.snoc X66 N64 pg_a2
        have K72 : Keep h0 h66 [a1, a2] := K65.wr W66 (Or.inl (List.mem_of_getElem? (i := 1) rfl))
        have hE : o_enc 9 (o_zz p0) = [(o_mb (o_zz p0)), (o_mb (o_sh (o_zz p0))), (o_lb (o_sh (o_sh (o_zz p0))))] := by simp [o_enc, hc22, hc22_1, hc22_2]
        have fV : Arv Z h66 a2 k2 .byte (4096 : Int32) ((ws ++ o_enc 9 (o_zz p0)).map Value.int) (.int (0 : Int32)) := by rw [hE]; exact V66
        have fL : Fld Z h66 a1 "com/example/estim365/estim365/formats/BytesOut" "length" "I" (.int (Int32.ofNat (ws ++ o_enc 9 (o_zz p0)).length)) := by rw [hE, List.length_append]; exact f70
        exact o_return X66 hx hret hlk (hb hby d_prog_80_method_6_code_79) (by decide) (by decide) e66 ⟨rfl, N71, K72, f68, f69, fL, fV⟩
      · refine o_ifN X52 hx (hb hby d_prog_80_method_6_code_22) (XT.ll_eq_f hc22_2) (n := 25) rfl ?_
        refine o_aloadN X52 hx (hb hby d_prog_80_method_6_code_25) (v := (.ref a1)) rfl rfl (n := 26) rfl ?_
        refine o_getfield X52 hx hZ hown (host := "") (Or.inl (hw _ (List.mem_of_getElem? (i := 10) rfl))) Via.refl e52 f55 (hb hby d_prog_80_method_6_code_26) (n := 29) rfl ?_
        intro T73 X73 e73
        refine o_aloadN X73 hx (hb hby d_prog_80_method_6_code_29) (v := (.ref a1)) rfl rfl (n := 30) rfl ?_
        refine o_dup X73 hx (hb hby d_prog_80_method_6_code_30) rfl (n := 31) rfl ?_
        refine o_getfield X73 hx hZ hown (host := "") (Or.inl (hw _ (List.mem_of_getElem? (i := 21) rfl))) Via.refl e73 f56 (hb hby d_prog_80_method_6_code_31) (n := 34) rfl ?_
        intro T74 X74 e74
        refine o_dup_x1 X74 hx (hb hby d_prog_80_method_6_code_34) rfl rfl (n := 35) rfl ?_
        refine o_iconst X74 hx (hb hby d_prog_80_method_6_code_35) (v := (1 : Int32)) rfl (n := 36) rfl ?_
        refine o_iadd X74 hx (hb hby d_prog_80_method_6_code_36) (v := (Int32.ofNat (ws.length + 3))) (o_suc _) (n := 37) rfl ?_
        refine o_putfield X74 hx hZ hown (host := "") (Or.inl (hw _ (List.mem_of_getElem? (i := 21) rfl))) Via.refl e74 f56 f54 (Or.inl (hw _ (List.mem_of_getElem? (i := 22) rfl))) (hw _ (List.mem_of_getElem? (i := 1) rfl)) (ty := .int) (by decide) rfl rfl (hb hby d_prog_80_method_6_code_37) (n := 40) rfl ?_
        intro T75 h75 X75 e75 W75 F75 E_75
        have f76 := f55.other W75 (Or.inr (slot_ne (Or.inl (hw _ (List.mem_of_getElem? (i := 11) rfl))) (Or.inl (hw _ (List.mem_of_getElem? (i := 22) rfl))) (by decide) (t := (.array .byte)) (t' := .int) (by decide) (by decide)))
        have f77 := V52.other W75 pne_a2_a1
        have zz75 : n0 ≤ h75.size := Nat.le_trans zz52 (Nat.le_of_eq W75.size.symm)
        have N78 := Fr.snoc X75 N57 pg_a1
        have K79 : Keep h0 h75 [a1, a2] := K58.wr W75 (Or.inl (List.mem_of_getElem? (i := 0) rfl))
        refine o_lloadN X75 hx (hb hby d_prog_80_method_6_code_40) (v := (o_sh (o_sh (o_zz p0)))) rfl (n := 41) rfl ?_
        refine o_ldc2_w X75 hx hZ (v := (127 : Int64)) hown (hw _ (List.mem_of_getElem? (i := 60) rfl)) (hb hby d_prog_80_method_6_code_41) (n := 44) rfl ?_
        refine o_land X75 hx (hb hby d_prog_80_method_6_code_44) (v := ((o_sh (o_sh (o_zz p0))) &&& (127 : Int64))) rfl (n := 45) rfl ?_
        refine o_ldc2_w X75 hx hZ (v := (128 : Int64)) hown (hw _ (List.mem_of_getElem? (i := 61) rfl)) (hb hby d_prog_80_method_6_code_45) (n := 48) rfl ?_
        refine o_lor X75 hx (hb hby d_prog_80_method_6_code_48) (v := (((o_sh (o_sh (o_zz p0))) &&& (127 : Int64)) ||| (128 : Int64))) rfl (n := 49) rfl ?_
        refine o_l2i X75 hx (hb hby d_prog_80_method_6_code_49) (v := (((o_sh (o_sh (o_zz p0))) &&& (127 : Int64)) ||| (128 : Int64)).toInt32) rfl (n := 50) rfl ?_
        refine o_i2b X75 hx (hb hby d_prog_80_method_6_code_50) (v := (o_mb (o_sh (o_sh (o_zz p0))))) rfl (n := 51) rfl ?_
        have f81 := f77.pad (pad_rep _ _ 1)
        refine o_bastore X75 hx hZ e75 f81 ((ws.length + 2)) (o_tn (by omega)) (o_rg (by omega)) (by simp) (w := (.int (o_mb (o_sh (o_sh (o_zz p0)))))) (congrArg Value.int (o_nar8 _)) (vs' := ((ws ++ [(o_mb (o_zz p0)), (o_mb (o_sh (o_zz p0))), (o_mb (o_sh (o_sh (o_zz p0))))]).map Value.int)) (o_set ws [(o_mb (o_zz p0)), (o_mb (o_sh (o_zz p0)))] _ 2 rfl) (hb hby d_prog_80_method_6_code_51) (n := 52) rfl ?_
        intro T80 h80 X80 e80 W80 V80
        have f82 := E_75.wr W80
        have f83 := f76.other W80 (Or.inl (Ne.symm pne_a2_a1))
        have f84 := F75.other W80 (Or.inl (Ne.symm pne_a2_a1))
        have zz80 : n0 ≤ h80.size := Nat.le_trans zz75 (Nat.le_of_eq W80.size.symm)
        have N85 := Fr.snoc X80 N78 pg_a2
        have K86 : Keep h0 h80 [a1, a2] := K79.wr W80 (Or.inl (List.mem_of_getElem? (i := 1) rfl))
        refine o_lloadN X80 hx (hb hby d_prog_80_method_6_code_52) (v := (o_sh (o_sh (o_zz p0)))) rfl (n := 53) rfl ?_
        refine o_bipush X80 hx (hb hby d_prog_80_method_6_code_53) (v := (7 : Int32)) rfl (n := 55) rfl ?_
        refine o_lushr X80 hx (hb hby d_prog_80_method_6_code_55) (v := (o_sh (o_sh (o_sh (o_zz p0))))) rfl (n := 56) rfl ?_
        refine o_lstoreN X80 hx (hb hby d_prog_80_method_6_code_56) (Ls' := #[.val (.ref a1), .val (.long p0), .second, .val (.long (o_sh (o_sh (o_sh (o_zz p0))))), .second]) rfl (n := 57) rfl ?_
        refine o_goto X80 hx (hb hby d_prog_80_method_6_code_57) (by decide) (n := 15) (by decide) ?_
        refine o_lloadN X80 hx (hb hby d_prog_80_method_6_code_15) (v := (o_sh (o_sh (o_sh (o_zz p0))))) rfl (n := 16) rfl ?_
        refine o_ldc2_w X80 hx hZ (v := (-128 : Int64)) hown (hw _ (List.mem_of_getElem? (i := 27) rfl)) (hb hby d_prog_80_method_6_code_16) (n := 19) rfl ?_
        refine o_land X80 hx (hb hby d_prog_80_method_6_code_19) (v := ((o_sh (o_sh (o_sh (o_zz p0)))) &&& (-128 : Int64))) rfl (n := 20) rfl ?_
        refine o_lconst X80 hx (hb hby d_prog_80_method_6_code_20) (v := (0 : Int64)) rfl (n := 21) rfl ?_
        refine o_lcmp X80 hx (hb hby d_prog_80_method_6_code_21) (n := 22) rfl ?_
        by_cases hc22_3 : ((o_sh (o_sh (o_sh (o_zz p0)))) &&& (-128 : Int64)) = (0 : Int64)
        · refine o_ifY X80 hx (hb hby d_prog_80_method_6_code_22) (XT.ll_eq_t hc22_3) (by decide) (n := 60) (by decide) ?_
          refine o_aloadN X80 hx (hb hby d_prog_80_method_6_code_60) (v := (.ref a1)) rfl rfl (n := 61) rfl ?_
          refine o_getfield X80 hx hZ hown (host := "") (Or.inl (hw _ (List.mem_of_getElem? (i := 10) rfl))) Via.refl e80 f83 (hb hby d_prog_80_method_6_code_61) (n := 64) rfl ?_
          intro T87 X87 e87
          refine o_aloadN X87 hx (hb hby d_prog_80_method_6_code_64) (v := (.ref a1)) rfl rfl (n := 65) rfl ?_
          refine o_dup X87 hx (hb hby d_prog_80_method_6_code_65) rfl (n := 66) rfl ?_
          refine o_getfield X87 hx hZ hown (host := "") (Or.inl (hw _ (List.mem_of_getElem? (i := 21) rfl))) Via.refl e87 f84 (hb hby d_prog_80_method_6_code_66) (n := 69) rfl ?_
          intro T88 X88 e88
          refine o_dup_x1 X88 hx (hb hby d_prog_80_method_6_code_69) rfl rfl (n := 70) rfl ?_
          refine o_iconst X88 hx (hb hby d_prog_80_method_6_code_70) (v := (1 : Int32)) rfl (n := 71) rfl ?_
          refine o_iadd X88 hx (hb hby d_prog_80_method_6_code_71) (v := (Int32.ofNat (ws.length + 4))) (o_suc _) (n := 72) rfl ?_
          refine o_putfield X88 hx hZ hown (host := "") (Or.inl (hw _ (List.mem_of_getElem? (i := 21) rfl))) Via.refl e88 f84 f82 (Or.inl (hw _ (List.mem_of_getElem? (i := 22) rfl))) (hw _ (List.mem_of_getElem? (i := 1) rfl)) (ty := .int) (by decide) rfl rfl (hb hby d_prog_80_method_6_code_72) (n := 75) rfl ?_
          intro T89 h89 X89 e89 W89 F89 E_89
          have f90 := f83.other W89 (Or.inr (slot_ne (Or.inl (hw _ (List.mem_of_getElem? (i := 11) rfl))) (Or.inl (hw _ (List.mem_of_getElem? (i := 22) rfl))) (by decide) (t := (.array .byte)) (t' := .int) (by decide) (by decide)))
          have f91 := V80.other W89 pne_a2_a1
          have zz89 : n0 ≤ h89.size := Nat.le_trans zz80 (Nat.le_of_eq W89.size.symm)
          have N92 := Fr.snoc X89 N85 pg_a1
          have K93 : Keep h0 h89 [a1, a2] := K86.wr W89 (Or.inl (List.mem_of_getElem? (i := 0) rfl))
          refine o_lloadN X89 hx (hb hby d_prog_80_method_6_code_75) (v := (o_sh (o_sh (o_sh (o_zz p0))))) rfl (n := 76) rfl ?_
          refine o_l2i X89 hx (hb hby d_prog_80_method_6_code_76) (v := (o_sh (o_sh (o_sh (o_zz p0)))).toInt32) rfl (n := 77) rfl ?_
          refine o_i2b X89 hx (hb hby d_prog_80_method_6_code_77) (v := (o_lb (o_sh (o_sh (o_sh (o_zz p0)))))) rfl (n := 78) rfl ?_
          have f95 := f91.pad (pad_rep _ _ 1)
          refine o_bastore X89 hx hZ e89 f95 ((ws.length + 3)) (o_tn (by omega)) (o_rg (by omega)) (by simp) (w := (.int (o_lb (o_sh (o_sh (o_sh (o_zz p0))))))) (congrArg Value.int (o_nar8 _)) (vs' := ((ws ++ [(o_mb (o_zz p0)), (o_mb (o_sh (o_zz p0))), (o_mb (o_sh (o_sh (o_zz p0)))), (o_lb (o_sh (o_sh (o_sh (o_zz p0)))))]).map Value.int)) (o_set ws [(o_mb (o_zz p0)), (o_mb (o_sh (o_zz p0))), (o_mb (o_sh (o_sh (o_zz p0))))] _ 3 rfl) (hb hby d_prog_80_method_6_code_78) (n := 79) rfl ?_
          intro T94 h94 X94 e94 W94 V94
          have f96 := E_89.wr W94
          have f97 := f90.other W94 (Or.inl (Ne.symm pne_a2_a1))
          have f98 := F89.other W94 (Or.inl (Ne.symm pne_a2_a1))
          have zz94 : n0 ≤ h94.size := Nat.le_trans zz89 (Nat.le_of_eq W94.size.symm)
          have N99 := Fr.snoc X94 N92 pg_a2
          have K100 : Keep h0 h94 [a1, a2] := K93.wr W94 (Or.inl (List.mem_of_getElem? (i := 1) rfl))
          have hE : o_enc 9 (o_zz p0) = [(o_mb (o_zz p0)), (o_mb (o_sh (o_zz p0))), (o_mb (o_sh (o_sh (o_zz p0)))), (o_lb (o_sh (o_sh (o_sh (o_zz p0)))))] := by simp [o_enc, hc22, hc22_1, hc22_2, hc22_3]
          have fV : Arv Z h94 a2 k2 .byte (4096 : Int32) ((ws ++ o_enc 9 (o_zz p0)).map Value.int) (.int (0 : Int32)) := by rw [hE]; exact V94
          have fL : Fld Z h94 a1 "com/example/estim365/estim365/formats/BytesOut" "length" "I" (.int (Int32.ofNat (ws ++ o_enc 9 (o_zz p0)).length)) := by rw [hE, List.length_append]; exact f98
          exact o_return X94 hx hret hlk (hb hby d_prog_80_method_6_code_79) (by decide) (by decide) e94 ⟨rfl, N99, K100, f96, f97, fL, fV⟩
        · refine o_ifN X80 hx (hb hby d_prog_80_method_6_code_22) (XT.ll_eq_f hc22_3) (n := 25) rfl ?_
          refine o_aloadN X80 hx (hb hby d_prog_80_method_6_code_25) (v := (.ref a1)) rfl rfl (n := 26) rfl ?_
          refine o_getfield X80 hx hZ hown (host := "") (Or.inl (hw _ (List.mem_of_getElem? (i := 10) rfl))) Via.refl e80 f83 (hb hby d_prog_80_method_6_code_26) (n := 29) rfl ?_
          intro T101 X101 e101
          refine o_aloadN X101 hx (hb hby d_prog_80_method_6_code_29) (v := (.ref a1)) rfl rfl (n := 30) rfl ?_
          refine o_dup X101 hx (hb hby d_prog_80_method_6_code_30) rfl (n := 31) rfl ?_
          refine o_getfield X101 hx hZ hown (host := "") (Or.inl (hw _ (List.mem_of_getElem? (i := 21) rfl))) Via.refl e101 f84 (hb hby d_prog_80_method_6_code_31) (n := 34) rfl ?_
          intro T102 X102 e102
          refine o_dup_x1 X102 hx (hb hby d_prog_80_method_6_code_34) rfl rfl (n := 35) rfl ?_
          refine o_iconst X102 hx (hb hby d_prog_80_method_6_code_35) (v := (1 : Int32)) rfl (n := 36) rfl ?_
          refine o_iadd X102 hx (hb hby d_prog_80_method_6_code_36) (v := (Int32.ofNat (ws.length + 4))) (o_suc _) (n := 37) rfl ?_
          refine o_putfield X102 hx hZ hown (host := "") (Or.inl (hw _ (List.mem_of_getElem? (i := 21) rfl))) Via.refl e102 f84 f82 (Or.inl (hw _ (List.mem_of_getElem? (i := 22) rfl))) (hw _ (List.mem_of_getElem? (i := 1) rfl)) (ty := .int) (by decide) rfl rfl (hb hby d_prog_80_method_6_code_37) (n := 40) rfl ?_
          intro T103 h103 X103 e103 W103 F103 E_103
          have f104 := f83.other W103 (Or.inr (slot_ne (Or.inl (hw _ (List.mem_of_getElem? (i := 11) rfl))) (Or.inl (hw _ (List.mem_of_getElem? (i := 22) rfl))) (by decide) (t := (.array .byte)) (t' := .int) (by decide) (by decide)))
          have f105 := V80.other W103 pne_a2_a1
          have zz103 : n0 ≤ h103.size := Nat.le_trans zz80 (Nat.le_of_eq W103.size.symm)
          have N106 := Fr.snoc X103 N85 pg_a1
          have K107 : Keep h0 h103 [a1, a2] := K86.wr W103 (Or.inl (List.mem_of_getElem? (i := 0) rfl))
          refine o_lloadN X103 hx (hb hby d_prog_80_method_6_code_40) (v := (o_sh (o_sh (o_sh (o_zz p0))))) rfl (n := 41) rfl ?_
          refine o_ldc2_w X103 hx hZ (v := (127 : Int64)) hown (hw _ (List.mem_of_getElem? (i := 60) rfl)) (hb hby d_prog_80_method_6_code_41) (n := 44) rfl ?_
          refine o_land X103 hx (hb hby d_prog_80_method_6_code_44) (v := ((o_sh (o_sh (o_sh (o_zz p0)))) &&& (127 : Int64))) rfl (n := 45) rfl ?_
          refine o_ldc2_w X103 hx hZ (v := (128 : Int64)) hown (hw _ (List.mem_of_getElem? (i := 61) rfl)) (hb hby d_prog_80_method_6_code_45) (n := 48) rfl ?_
          refine o_lor X103 hx (hb hby d_prog_80_method_6_code_48) (v := (((o_sh (o_sh (o_sh (o_zz p0)))) &&& (127 : Int64)) ||| (128 : Int64))) rfl (n := 49) rfl ?_
          refine o_l2i X103 hx (hb hby d_prog_80_method_6_code_49) (v := (((o_sh (o_sh (o_sh (o_zz p0)))) &&& (127 : Int64)) ||| (128 : Int64)).toInt32) rfl (n := 50) rfl ?_
          refine o_i2b X103 hx (hb hby d_prog_80_method_6_code_50) (v := (o_mb (o_sh (o_sh (o_sh (o_zz p0)))))) rfl (n := 51) rfl ?_
          have f109 := f105.pad (pad_rep _ _ 1)
          refine o_bastore X103 hx hZ e103 f109 ((ws.length + 3)) (o_tn (by omega)) (o_rg (by omega)) (by simp) (w := (.int (o_mb (o_sh (o_sh (o_sh (o_zz p0))))))) (congrArg Value.int (o_nar8 _)) (vs' := ((ws ++ [(o_mb (o_zz p0)), (o_mb (o_sh (o_zz p0))), (o_mb (o_sh (o_sh (o_zz p0)))), (o_mb (o_sh (o_sh (o_sh (o_zz p0)))))]).map Value.int)) (o_set ws [(o_mb (o_zz p0)), (o_mb (o_sh (o_zz p0))), (o_mb (o_sh (o_sh (o_zz p0))))] _ 3 rfl) (hb hby d_prog_80_method_6_code_51) (n := 52) rfl ?_
          intro T108 h108 X108 e108 W108 V108
          have f110 := E_103.wr W108
          have f111 := f104.other W108 (Or.inl (Ne.symm pne_a2_a1))
          have f112 := F103.other W108 (Or.inl (Ne.symm pne_a2_a1))
          have zz108 : n0 ≤ h108.size := Nat.le_trans zz103 (Nat.le_of_eq W108.size.symm)
          have N113 := Fr.snoc X108 N106 pg_a2
          have K114 : Keep h0 h108 [a1, a2] := K107.wr W108 (Or.inl (List.mem_of_getElem? (i := 1) rfl))
          refine o_lloadN X108 hx (hb hby d_prog_80_method_6_code_52) (v := (o_sh (o_sh (o_sh (o_zz p0))))) rfl (n := 53) rfl ?_
          refine o_bipush X108 hx (hb hby d_prog_80_method_6_code_53) (v := (7 : Int32)) rfl (n := 55) rfl ?_
          refine o_lushr X108 hx (hb hby d_prog_80_method_6_code_55) (v := (o_sh (o_sh (o_sh (o_sh (o_zz p0)))))) rfl (n := 56) rfl ?_
          refine o_lstoreN X108 hx (hb hby d_prog_80_method_6_code_56) (Ls' := #[.val (.ref a1), .val (.long p0), .second, .val (.long (o_sh (o_sh (o_sh (o_sh (o_zz p0)))))), .second]) rfl (n := 57) rfl ?_
          refine o_goto X108 hx (hb hby d_prog_80_method_6_code_57) (by decide) (n := 15) (by decide) ?_
          refine o_lloadN X108 hx (hb hby d_prog_80_method_6_code_15) (v := (o_sh (o_sh (o_sh (o_sh (o_zz p0)))))) rfl (n := 16) rfl ?_
          refine o_ldc2_w X108 hx hZ (v := (-128 : Int64)) hown (hw _ (List.mem_of_getElem? (i := 27) rfl)) (hb hby d_prog_80_method_6_code_16) (n := 19) rfl ?_
          refine o_land X108 hx (hb hby d_prog_80_method_6_code_19) (v := ((o_sh (o_sh (o_sh (o_sh (o_zz p0))))) &&& (-128 : Int64))) rfl (n := 20) rfl ?_
          refine o_lconst X108 hx (hb hby d_prog_80_method_6_code_20) (v := (0 : Int64)) rfl (n := 21) rfl ?_
          refine o_lcmp X108 hx (hb hby d_prog_80_method_6_code_21) (n := 22) rfl ?_
          by_cases hc22_4 : ((o_sh (o_sh (o_sh (o_sh (o_zz p0))))) &&& (-128 : Int64)) = (0 : Int64)
          · refine o_ifY X108 hx (hb hby d_prog_80_method_6_code_22) (XT.ll_eq_t hc22_4) (by decide) (n := 60) (by decide) ?_
            refine o_aloadN X108 hx (hb hby d_prog_80_method_6_code_60) (v := (.ref a1)) rfl rfl (n := 61) rfl ?_
            refine o_getfield X108 hx hZ hown (host := "") (Or.inl (hw _ (List.mem_of_getElem? (i := 10) rfl))) Via.refl e108 f111 (hb hby d_prog_80_method_6_code_61) (n := 64) rfl ?_
            intro T115 X115 e115
            refine o_aloadN X115 hx (hb hby d_prog_80_method_6_code_64) (v := (.ref a1)) rfl rfl (n := 65) rfl ?_
            refine o_dup X115 hx (hb hby d_prog_80_method_6_code_65) rfl (n := 66) rfl ?_
            refine o_getfield X115 hx hZ hown (host := "") (Or.inl (hw _ (List.mem_of_getElem? (i := 21) rfl))) Via.refl e115 f112 (hb hby d_prog_80_method_6_code_66) (n := 69) rfl ?_
            intro T116 X116 e116
            refine o_dup_x1 X116 hx (hb hby d_prog_80_method_6_code_69) rfl rfl (n := 70) rfl ?_
            refine o_iconst X116 hx (hb hby d_prog_80_method_6_code_70) (v := (1 : Int32)) rfl (n := 71) rfl ?_
            refine o_iadd X116 hx (hb hby d_prog_80_method_6_code_71) (v := (Int32.ofNat (ws.length + 5))) (o_suc _) (n := 72) rfl ?_
            refine o_putfield X116 hx hZ hown (host := "") (Or.inl (hw _ (List.mem_of_getElem? (i := 21) rfl))) Via.refl e116 f112 f110 (Or.inl (hw _ (List.mem_of_getElem? (i := 22) rfl))) (hw _ (List.mem_of_getElem? (i := 1) rfl)) (ty := .int) (by decide) rfl rfl (hb hby d_prog_80_method_6_code_72) (n := 75) rfl ?_
            intro T117 h117 X117 e117 W117 F117 E_117
            have f118 := f111.other W117 (Or.inr (slot_ne (Or.inl (hw _ (List.mem_of_getElem? (i := 11) rfl))) (Or.inl (hw _ (List.mem_of_getElem? (i := 22) rfl))) (by decide) (t := (.array .byte)) (t' := .int) (by decide) (by decide)))
            have f119 := V108.other W117 pne_a2_a1
            have zz117 : n0 ≤ h117.size := Nat.le_trans zz108 (Nat.le_of_eq W117.size.symm)
            have N120 := Fr.snoc X117 N113 pg_a1
            have K121 : Keep h0 h117 [a1, a2] := K114.wr W117 (Or.inl (List.mem_of_getElem? (i := 0) rfl))
            refine o_lloadN X117 hx (hb hby d_prog_80_method_6_code_75) (v := (o_sh (o_sh (o_sh (o_sh (o_zz p0)))))) rfl (n := 76) rfl ?_
            refine o_l2i X117 hx (hb hby d_prog_80_method_6_code_76) (v := (o_sh (o_sh (o_sh (o_sh (o_zz p0))))).toInt32) rfl (n := 77) rfl ?_
            refine o_i2b X117 hx (hb hby d_prog_80_method_6_code_77) (v := (o_lb (o_sh (o_sh (o_sh (o_sh (o_zz p0))))))) rfl (n := 78) rfl ?_
            have f123 := f119.pad (pad_rep _ _ 1)
            refine o_bastore X117 hx hZ e117 f123 ((ws.length + 4)) (o_tn (by omega)) (o_rg (by omega)) (by simp) (w := (.int (o_lb (o_sh (o_sh (o_sh (o_sh (o_zz p0)))))))) (congrArg Value.int (o_nar8 _)) (vs' := ((ws ++ [(o_mb (o_zz p0)), (o_mb (o_sh (o_zz p0))), (o_mb (o_sh (o_sh (o_zz p0)))), (o_mb (o_sh (o_sh (o_sh (o_zz p0))))), (o_lb (o_sh (o_sh (o_sh (o_sh (o_zz p0))))))]).map Value.int)) (o_set ws [(o_mb (o_zz p0)), (o_mb (o_sh (o_zz p0))), (o_mb (o_sh (o_sh (o_zz p0)))), (o_mb (o_sh (o_sh (o_sh (o_zz p0)))))] _ 4 rfl) (hb hby d_prog_80_method_6_code_78) (n := 79) rfl ?_
            intro T122 h122 X122 e122 W122 V122
            have f124 := E_117.wr W122
            have f125 := f118.other W122 (Or.inl (Ne.symm pne_a2_a1))
            have f126 := F117.other W122 (Or.inl (Ne.symm pne_a2_a1))
            have zz122 : n0 ≤ h122.size := Nat.le_trans zz117 (Nat.le_of_eq W122.size.symm)
            have N127 := Fr.snoc X122 N120 pg_a2
            have K128 : Keep h0 h122 [a1, a2] := K121.wr W122 (Or.inl (List.mem_of_getElem? (i := 1) rfl))
            have hE : o_enc 9 (o_zz p0) = [(o_mb (o_zz p0)), (o_mb (o_sh (o_zz p0))), (o_mb (o_sh (o_sh (o_zz p0)))), (o_mb (o_sh (o_sh (o_sh (o_zz p0))))), (o_lb (o_sh (o_sh (o_sh (o_sh (o_zz p0))))))] := by simp [o_enc, hc22, hc22_1, hc22_2, hc22_3, hc22_4]
            have fV : Arv Z h122 a2 k2 .byte (4096 : Int32) ((ws ++ o_enc 9 (o_zz p0)).map Value.int) (.int (0 : Int32)) := by rw [hE]; exact V122
            have fL : Fld Z h122 a1 "com/example/estim365/estim365/formats/BytesOut" "length" "I" (.int (Int32.ofNat (ws ++ o_enc 9 (o_zz p0)).length)) := by rw [hE, List.length_append]; exact f126
            exact o_return X122 hx hret hlk (hb hby d_prog_80_method_6_code_79) (by decide) (by decide) e122 ⟨rfl, N127, K128, f124, f125, fL, fV⟩
          · refine o_ifN X108 hx (hb hby d_prog_80_method_6_code_22) (XT.ll_eq_f hc22_4) (n := 25) rfl ?_
            refine o_aloadN X108 hx (hb hby d_prog_80_method_6_code_25) (v := (.ref a1)) rfl rfl (n := 26) rfl ?_
            refine o_getfield X108 hx hZ hown (host := "") (Or.inl (hw _ (List.mem_of_getElem? (i := 10) rfl))) Via.refl e108 f111 (hb hby d_prog_80_method_6_code_26) (n := 29) rfl ?_
            intro T129 X129 e129
            refine o_aloadN X129 hx (hb hby d_prog_80_method_6_code_29) (v := (.ref a1)) rfl rfl (n := 30) rfl ?_
            refine o_dup X129 hx (hb hby d_prog_80_method_6_code_30) rfl (n := 31) rfl ?_
            refine o_getfield X129 hx hZ hown (host := "") (Or.inl (hw _ (List.mem_of_getElem? (i := 21) rfl))) Via.refl e129 f112 (hb hby d_prog_80_method_6_code_31) (n := 34) rfl ?_
            intro T130 X130 e130
            refine o_dup_x1 X130 hx (hb hby d_prog_80_method_6_code_34) rfl rfl (n := 35) rfl ?_
            refine o_iconst X130 hx (hb hby d_prog_80_method_6_code_35) (v := (1 : Int32)) rfl (n := 36) rfl ?_
            refine o_iadd X130 hx (hb hby d_prog_80_method_6_code_36) (v := (Int32.ofNat (ws.length + 5))) (o_suc _) (n := 37) rfl ?_
            refine o_putfield X130 hx hZ hown (host := "") (Or.inl (hw _ (List.mem_of_getElem? (i := 21) rfl))) Via.refl e130 f112 f110 (Or.inl (hw _ (List.mem_of_getElem? (i := 22) rfl))) (hw _ (List.mem_of_getElem? (i := 1) rfl)) (ty := .int) (by decide) rfl rfl (hb hby d_prog_80_method_6_code_37) (n := 40) rfl ?_
            intro T131 h131 X131 e131 W131 F131 E_131
            have f132 := f111.other W131 (Or.inr (slot_ne (Or.inl (hw _ (List.mem_of_getElem? (i := 11) rfl))) (Or.inl (hw _ (List.mem_of_getElem? (i := 22) rfl))) (by decide) (t := (.array .byte)) (t' := .int) (by decide) (by decide)))
            have f133 := V108.other W131 pne_a2_a1
            have zz131 : n0 ≤ h131.size := Nat.le_trans zz108 (Nat.le_of_eq W131.size.symm)
            have N134 := Fr.snoc X131 N113 pg_a1
            have K135 : Keep h0 h131 [a1, a2] := K114.wr W131 (Or.inl (List.mem_of_getElem? (i := 0) rfl))
            refine o_lloadN X131 hx (hb hby d_prog_80_method_6_code_40) (v := (o_sh (o_sh (o_sh (o_sh (o_zz p0)))))) rfl (n := 41) rfl ?_
            refine o_ldc2_w X131 hx hZ (v := (127 : Int64)) hown (hw _ (List.mem_of_getElem? (i := 60) rfl)) (hb hby d_prog_80_method_6_code_41) (n := 44) rfl ?_
            refine o_land X131 hx (hb hby d_prog_80_method_6_code_44) (v := ((o_sh (o_sh (o_sh (o_sh (o_zz p0))))) &&& (127 : Int64))) rfl (n := 45) rfl ?_
            refine o_ldc2_w X131 hx hZ (v := (128 : Int64)) hown (hw _ (List.mem_of_getElem? (i := 61) rfl)) (hb hby d_prog_80_method_6_code_45) (n := 48) rfl ?_
            refine o_lor X131 hx (hb hby d_prog_80_method_6_code_48) (v := (((o_sh (o_sh (o_sh (o_sh (o_zz p0))))) &&& (127 : Int64)) ||| (128 : Int64))) rfl (n := 49) rfl ?_
            refine o_l2i X131 hx (hb hby d_prog_80_method_6_code_49) (v := (((o_sh (o_sh (o_sh (o_sh (o_zz p0))))) &&& (127 : Int64)) ||| (128 : Int64)).toInt32) rfl (n := 50) rfl ?_
            refine o_i2b X131 hx (hb hby d_prog_80_method_6_code_50) (v := (o_mb (o_sh (o_sh (o_sh (o_sh (o_zz p0))))))) rfl (n := 51) rfl ?_
            have f137 := f133.pad (pad_rep _ _ 1)
            refine o_bastore X131 hx hZ e131 f137 ((ws.length + 4)) (o_tn (by omega)) (o_rg (by omega)) (by simp) (w := (.int (o_mb (o_sh (o_sh (o_sh (o_sh (o_zz p0)))))))) (congrArg Value.int (o_nar8 _)) (vs' := ((ws ++ [(o_mb (o_zz p0)), (o_mb (o_sh (o_zz p0))), (o_mb (o_sh (o_sh (o_zz p0)))), (o_mb (o_sh (o_sh (o_sh (o_zz p0))))), (o_mb (o_sh (o_sh (o_sh (o_sh (o_zz p0))))))]).map Value.int)) (o_set ws [(o_mb (o_zz p0)), (o_mb (o_sh (o_zz p0))), (o_mb (o_sh (o_sh (o_zz p0)))), (o_mb (o_sh (o_sh (o_sh (o_zz p0)))))] _ 4 rfl) (hb hby d_prog_80_method_6_code_51) (n := 52) rfl ?_
            intro T136 h136 X136 e136 W136 V136
            have f138 := E_131.wr W136
            have f139 := f132.other W136 (Or.inl (Ne.symm pne_a2_a1))
            have f140 := F131.other W136 (Or.inl (Ne.symm pne_a2_a1))
            have zz136 : n0 ≤ h136.size := Nat.le_trans zz131 (Nat.le_of_eq W136.size.symm)
            have N141 := Fr.snoc X136 N134 pg_a2
            have K142 : Keep h0 h136 [a1, a2] := K135.wr W136 (Or.inl (List.mem_of_getElem? (i := 1) rfl))
            refine o_lloadN X136 hx (hb hby d_prog_80_method_6_code_52) (v := (o_sh (o_sh (o_sh (o_sh (o_zz p0)))))) rfl (n := 53) rfl ?_
            refine o_bipush X136 hx (hb hby d_prog_80_method_6_code_53) (v := (7 : Int32)) rfl (n := 55) rfl ?_
            refine o_lushr X136 hx (hb hby d_prog_80_method_6_code_55) (v := (o_sh (o_sh (o_sh (o_sh (o_sh (o_zz p0))))))) rfl (n := 56) rfl ?_
            refine o_lstoreN X136 hx (hb hby d_prog_80_method_6_code_56) (Ls' := #[.val (.ref a1), .val (.long p0), .second, .val (.long (o_sh (o_sh (o_sh (o_sh (o_sh (o_zz p0))))))), .second]) rfl (n := 57) rfl ?_
            refine o_goto X136 hx (hb hby d_prog_80_method_6_code_57) (by decide) (n := 15) (by decide) ?_
            refine o_lloadN X136 hx (hb hby d_prog_80_method_6_code_15) (v := (o_sh (o_sh (o_sh (o_sh (o_sh (o_zz p0))))))) rfl (n := 16) rfl ?_
            refine o_ldc2_w X136 hx hZ (v := (-128 : Int64)) hown (hw _ (List.mem_of_getElem? (i := 27) rfl)) (hb hby d_prog_80_method_6_code_16) (n := 19) rfl ?_
            refine o_land X136 hx (hb hby d_prog_80_method_6_code_19) (v := ((o_sh (o_sh (o_sh (o_sh (o_sh (o_zz p0)))))) &&& (-128 : Int64))) rfl (n := 20) rfl ?_
            refine o_lconst X136 hx (hb hby d_prog_80_method_6_code_20) (v := (0 : Int64)) rfl (n := 21) rfl ?_
            refine o_lcmp X136 hx (hb hby d_prog_80_method_6_code_21) (n := 22) rfl ?_
            by_cases hc22_5 : ((o_sh (o_sh (o_sh (o_sh (o_sh (o_zz p0)))))) &&& (-128 : Int64)) = (0 : Int64)
            · refine o_ifY X136 hx (hb hby d_prog_80_method_6_code_22) (XT.ll_eq_t hc22_5) (by decide) (n := 60) (by decide) ?_
              refine o_aloadN X136 hx (hb hby d_prog_80_method_6_code_60) (v := (.ref a1)) rfl rfl (n := 61) rfl ?_
              refine o_getfield X136 hx hZ hown (host := "") (Or.inl (hw _ (List.mem_of_getElem? (i := 10) rfl))) Via.refl e136 f139 (hb hby d_prog_80_method_6_code_61) (n := 64) rfl ?_
              intro T143 X143 e143
              refine o_aloadN X143 hx (hb hby d_prog_80_method_6_code_64) (v := (.ref a1)) rfl rfl (n := 65) rfl ?_
              refine o_dup X143 hx (hb hby d_prog_80_method_6_code_65) rfl (n := 66) rfl ?_
              refine o_getfield X143 hx hZ hown (host := "") (Or.inl (hw _ (List.mem_of_getElem? (i := 21) rfl))) Via.refl e143 f140 (hb hby d_prog_80_method_6_code_66) (n := 69) rfl ?_
              intro T144 X144 e144
              refine o_dup_x1 X144 hx (hb hby d_prog_80_method_6_code_69) rfl rfl (n := 70) rfl ?_
              refine o_iconst X144 hx (hb hby d_prog_80_method_6_code_70) (v := (1 : Int32)) rfl (n := 71) rfl ?_
              refine o_iadd X144 hx (hb hby d_prog_80_method_6_code_71) (v := (Int32.ofNat (ws.length + 6))) (o_suc _) (n := 72) rfl ?_
              refine o_putfield X144 hx hZ hown (host := "") (Or.inl (hw _ (List.mem_of_getElem? (i := 21) rfl))) Via.refl e144 f140 f138 (Or.inl (hw _ (List.mem_of_getElem? (i := 22) rfl))) (hw _ (List.mem_of_getElem? (i := 1) rfl)) (ty := .int) (by decide) rfl rfl (hb hby d_prog_80_method_6_code_72) (n := 75) rfl ?_
              intro T145 h145 X145 e145 W145 F145 E_145
              have f146 := f139.other W145 (Or.inr (slot_ne (Or.inl (hw _ (List.mem_of_getElem? (i := 11) rfl))) (Or.inl (hw _ (List.mem_of_getElem? (i := 22) rfl))) (by decide) (t := (.array .byte)) (t' := .int) (by decide) (by decide)))
              have f147 := V136.other W145 pne_a2_a1
              have zz145 : n0 ≤ h145.size := Nat.le_trans zz136 (Nat.le_of_eq W145.size.symm)
              have N148 := Fr.snoc X145 N141 pg_a1
              have K149 : Keep h0 h145 [a1, a2] := K142.wr W145 (Or.inl (List.mem_of_getElem? (i := 0) rfl))
              refine o_lloadN X145 hx (hb hby d_prog_80_method_6_code_75) (v := (o_sh (o_sh (o_sh (o_sh (o_sh (o_zz p0))))))) rfl (n := 76) rfl ?_
              refine o_l2i X145 hx (hb hby d_prog_80_method_6_code_76) (v := (o_sh (o_sh (o_sh (o_sh (o_sh (o_zz p0)))))).toInt32) rfl (n := 77) rfl ?_
              refine o_i2b X145 hx (hb hby d_prog_80_method_6_code_77) (v := (o_lb (o_sh (o_sh (o_sh (o_sh (o_sh (o_zz p0)))))))) rfl (n := 78) rfl ?_
              have f151 := f147.pad (pad_rep _ _ 1)
              refine o_bastore X145 hx hZ e145 f151 ((ws.length + 5)) (o_tn (by omega)) (o_rg (by omega)) (by simp) (w := (.int (o_lb (o_sh (o_sh (o_sh (o_sh (o_sh (o_zz p0))))))))) (congrArg Value.int (o_nar8 _)) (vs' := ((ws ++ [(o_mb (o_zz p0)), (o_mb (o_sh (o_zz p0))), (o_mb (o_sh (o_sh (o_zz p0)))), (o_mb (o_sh (o_sh (o_sh (o_zz p0))))), (o_mb (o_sh (o_sh (o_sh (o_sh (o_zz p0)))))), (o_lb (o_sh (o_sh (o_sh (o_sh (o_sh (o_zz p0)))))))]).map Value.int)) (o_set ws [(o_mb (o_zz p0)), (o_mb (o_sh (o_zz p0))), (o_mb (o_sh (o_sh (o_zz p0)))), (o_mb (o_sh (o_sh (o_sh (o_zz p0))))), (o_mb (o_sh (o_sh (o_sh (o_sh (o_zz p0))))))] _ 5 rfl) (hb hby d_prog_80_method_6_code_78) (n := 79) rfl ?_
              intro T150 h150 X150 e150 W150 V150
              have f152 := E_145.wr W150
              have f153 := f146.other W150 (Or.inl (Ne.symm pne_a2_a1))
              have f154 := F145.other W150 (Or.inl (Ne.symm pne_a2_a1))
              have zz150 : n0 ≤ h150.size := Nat.le_trans zz145 (Nat.le_of_eq W150.size.symm)
              have N155 := Fr.snoc X150 N148 pg_a2
              have K156 : Keep h0 h150 [a1, a2] := K149.wr W150 (Or.inl (List.mem_of_getElem? (i := 1) rfl))
              have hE : o_enc 9 (o_zz p0) = [(o_mb (o_zz p0)), (o_mb (o_sh (o_zz p0))), (o_mb (o_sh (o_sh (o_zz p0)))), (o_mb (o_sh (o_sh (o_sh (o_zz p0))))), (o_mb (o_sh (o_sh (o_sh (o_sh (o_zz p0)))))), (o_lb (o_sh (o_sh (o_sh (o_sh (o_sh (o_zz p0)))))))] := by simp [o_enc, hc22, hc22_1, hc22_2, hc22_3, hc22_4, hc22_5]
              have fV : Arv Z h150 a2 k2 .byte (4096 : Int32) ((ws ++ o_enc 9 (o_zz p0)).map Value.int) (.int (0 : Int32)) := by rw [hE]; exact V150
              have fL : Fld Z h150 a1 "com/example/estim365/estim365/formats/BytesOut" "length" "I" (.int (Int32.ofNat (ws ++ o_enc 9 (o_zz p0)).length)) := by rw [hE, List.length_append]; exact f154
              exact o_return X150 hx hret hlk (hb hby d_prog_80_method_6_code_79) (by decide) (by decide) e150 ⟨rfl, N155, K156, f152, f153, fL, fV⟩
            · refine o_ifN X136 hx (hb hby d_prog_80_method_6_code_22) (XT.ll_eq_f hc22_5) (n := 25) rfl ?_
              refine o_aloadN X136 hx (hb hby d_prog_80_method_6_code_25) (v := (.ref a1)) rfl rfl (n := 26) rfl ?_
              refine o_getfield X136 hx hZ hown (host := "") (Or.inl (hw _ (List.mem_of_getElem? (i := 10) rfl))) Via.refl e136 f139 (hb hby d_prog_80_method_6_code_26) (n := 29) rfl ?_
              intro T157 X157 e157
              refine o_aloadN X157 hx (hb hby d_prog_80_method_6_code_29) (v := (.ref a1)) rfl rfl (n := 30) rfl ?_
              refine o_dup X157 hx (hb hby d_prog_80_method_6_code_30) rfl (n := 31) rfl ?_
              refine o_getfield X157 hx hZ hown (host := "") (Or.inl (hw _ (List.mem_of_getElem? (i := 21) rfl))) Via.refl e157 f140 (hb hby d_prog_80_method_6_code_31) (n := 34) rfl ?_
              intro T158 X158 e158
              refine o_dup_x1 X158 hx (hb hby d_prog_80_method_6_code_34) rfl rfl (n := 35) rfl ?_
              refine o_iconst X158 hx (hb hby d_prog_80_method_6_code_35) (v := (1 : Int32)) rfl (n := 36) rfl ?_
              refine o_iadd X158 hx (hb hby d_prog_80_method_6_code_36) (v := (Int32.ofNat (ws.length + 6))) (o_suc _) (n := 37) rfl ?_
              refine o_putfield X158 hx hZ hown (host := "") (Or.inl (hw _ (List.mem_of_getElem? (i := 21) rfl))) Via.refl e158 f140 f138 (Or.inl (hw _ (List.mem_of_getElem? (i := 22) rfl))) (hw _ (List.mem_of_getElem? (i := 1) rfl)) (ty := .int) (by decide) rfl rfl (hb hby d_prog_80_method_6_code_37) (n := 40) rfl ?_
              intro T159 h159 X159 e159 W159 F159 E_159
              have f160 := f139.other W159 (Or.inr (slot_ne (Or.inl (hw _ (List.mem_of_getElem? (i := 11) rfl))) (Or.inl (hw _ (List.mem_of_getElem? (i := 22) rfl))) (by decide) (t := (.array .byte)) (t' := .int) (by decide) (by decide)))
              have f161 := V136.other W159 pne_a2_a1
              have zz159 : n0 ≤ h159.size := Nat.le_trans zz136 (Nat.le_of_eq W159.size.symm)
              have N162 := Fr.snoc X159 N141 pg_a1
              have K163 : Keep h0 h159 [a1, a2] := K142.wr W159 (Or.inl (List.mem_of_getElem? (i := 0) rfl))
              refine o_lloadN X159 hx (hb hby d_prog_80_method_6_code_40) (v := (o_sh (o_sh (o_sh (o_sh (o_sh (o_zz p0))))))) rfl (n := 41) rfl ?_
              refine o_ldc2_w X159 hx hZ (v := (127 : Int64)) hown (hw _ (List.mem_of_getElem? (i := 60) rfl)) (hb hby d_prog_80_method_6_code_41) (n := 44) rfl ?_
              refine o_land X159 hx (hb hby d_prog_80_method_6_code_44) (v := ((o_sh (o_sh (o_sh (o_sh (o_sh (o_zz p0)))))) &&& (127 : Int64))) rfl (n := 45) rfl ?_
              refine o_ldc2_w X159 hx hZ (v := (128 : Int64)) hown (hw _ (List.mem_of_getElem? (i := 61) rfl)) (hb hby d_prog_80_method_6_code_45) (n := 48) rfl ?_
              refine o_lor X159 hx (hb hby d_prog_80_method_6_code_48) (v := (((o_sh (o_sh (o_sh (o_sh (o_sh (o_zz p0)))))) &&& (127 : Int64)) ||| (128 : Int64))) rfl (n := 49) rfl ?_
              refine o_l2i X159 hx (hb hby d_prog_80_method_6_code_49) (v := (((o_sh (o_sh (o_sh (o_sh (o_sh (o_zz p0)))))) &&& (127 : Int64)) ||| (128 : Int64)).toInt32) rfl (n := 50) rfl ?_
              refine o_i2b X159 hx (hb hby d_prog_80_method_6_code_50) (v := (o_mb (o_sh (o_sh (o_sh (o_sh (o_sh (o_zz p0)))))))) rfl (n := 51) rfl ?_
              have f165 := f161.pad (pad_rep _ _ 1)
              refine o_bastore X159 hx hZ e159 f165 ((ws.length + 5)) (o_tn (by omega)) (o_rg (by omega)) (by simp) (w := (.int (o_mb (o_sh (o_sh (o_sh (o_sh (o_sh (o_zz p0))))))))) (congrArg Value.int (o_nar8 _)) (vs' := ((ws ++ [(o_mb (o_zz p0)), (o_mb (o_sh (o_zz p0))), (o_mb (o_sh (o_sh (o_zz p0)))), (o_mb (o_sh (o_sh (o_sh (o_zz p0))))), (o_mb (o_sh (o_sh (o_sh (o_sh (o_zz p0)))))), (o_mb (o_sh (o_sh (o_sh (o_sh (o_sh (o_zz p0)))))))]).map Value.int)) (o_set ws [(o_mb (o_zz p0)), (o_mb (o_sh (o_zz p0))), (o_mb (o_sh (o_sh (o_zz p0)))), (o_mb (o_sh (o_sh (o_sh (o_zz p0))))), (o_mb (o_sh (o_sh (o_sh (o_sh (o_zz p0))))))] _ 5 rfl) (hb hby d_prog_80_method_6_code_51) (n := 52) rfl ?_
              intro T164 h164 X164 e164 W164 V164
              have f166 := E_159.wr W164
              have f167 := f160.other W164 (Or.inl (Ne.symm pne_a2_a1))
              have f168 := F159.other W164 (Or.inl (Ne.symm pne_a2_a1))
              have zz164 : n0 ≤ h164.size := Nat.le_trans zz159 (Nat.le_of_eq W164.size.symm)
              have N169 := Fr.snoc X164 N162 pg_a2
              have K170 : Keep h0 h164 [a1, a2] := K163.wr W164 (Or.inl (List.mem_of_getElem? (i := 1) rfl))
              refine o_lloadN X164 hx (hb hby d_prog_80_method_6_code_52) (v := (o_sh (o_sh (o_sh (o_sh (o_sh (o_zz p0))))))) rfl (n := 53) rfl ?_
              refine o_bipush X164 hx (hb hby d_prog_80_method_6_code_53) (v := (7 : Int32)) rfl (n := 55) rfl ?_
              refine o_lushr X164 hx (hb hby d_prog_80_method_6_code_55) (v := (o_sh (o_sh (o_sh (o_sh (o_sh (o_sh (o_zz p0)))))))) rfl (n := 56) rfl ?_
              refine o_lstoreN X164 hx (hb hby d_prog_80_method_6_code_56) (Ls' := #[.val (.ref a1), .val (.long p0), .second, .val (.long (o_sh (o_sh (o_sh (o_sh (o_sh (o_sh (o_zz p0)))))))), .second]) rfl (n := 57) rfl ?_
              refine o_goto X164 hx (hb hby d_prog_80_method_6_code_57) (by decide) (n := 15) (by decide) ?_
              refine o_lloadN X164 hx (hb hby d_prog_80_method_6_code_15) (v := (o_sh (o_sh (o_sh (o_sh (o_sh (o_sh (o_zz p0)))))))) rfl (n := 16) rfl ?_
              refine o_ldc2_w X164 hx hZ (v := (-128 : Int64)) hown (hw _ (List.mem_of_getElem? (i := 27) rfl)) (hb hby d_prog_80_method_6_code_16) (n := 19) rfl ?_
              refine o_land X164 hx (hb hby d_prog_80_method_6_code_19) (v := ((o_sh (o_sh (o_sh (o_sh (o_sh (o_sh (o_zz p0))))))) &&& (-128 : Int64))) rfl (n := 20) rfl ?_
              refine o_lconst X164 hx (hb hby d_prog_80_method_6_code_20) (v := (0 : Int64)) rfl (n := 21) rfl ?_
              refine o_lcmp X164 hx (hb hby d_prog_80_method_6_code_21) (n := 22) rfl ?_
              by_cases hc22_6 : ((o_sh (o_sh (o_sh (o_sh (o_sh (o_sh (o_zz p0))))))) &&& (-128 : Int64)) = (0 : Int64)
              · refine o_ifY X164 hx (hb hby d_prog_80_method_6_code_22) (XT.ll_eq_t hc22_6) (by decide) (n := 60) (by decide) ?_
                refine o_aloadN X164 hx (hb hby d_prog_80_method_6_code_60) (v := (.ref a1)) rfl rfl (n := 61) rfl ?_
                refine o_getfield X164 hx hZ hown (host := "") (Or.inl (hw _ (List.mem_of_getElem? (i := 10) rfl))) Via.refl e164 f167 (hb hby d_prog_80_method_6_code_61) (n := 64) rfl ?_
                intro T171 X171 e171
                refine o_aloadN X171 hx (hb hby d_prog_80_method_6_code_64) (v := (.ref a1)) rfl rfl (n := 65) rfl ?_
                refine o_dup X171 hx (hb hby d_prog_80_method_6_code_65) rfl (n := 66) rfl ?_
                refine o_getfield X171 hx hZ hown (host := "") (Or.inl (hw _ (List.mem_of_getElem? (i := 21) rfl))) Via.refl e171 f168 (hb hby d_prog_80_method_6_code_66) (n := 69) rfl ?_
                intro T172 X172 e172
                refine o_dup_x1 X172 hx (hb hby d_prog_80_method_6_code_69) rfl rfl (n := 70) rfl ?_
                refine o_iconst X172 hx (hb hby d_prog_80_method_6_code_70) (v := (1 : Int32)) rfl (n := 71) rfl ?_
                refine o_iadd X172 hx (hb hby d_prog_80_method_6_code_71) (v := (Int32.ofNat (ws.length + 7))) (o_suc _) (n := 72) rfl ?_
                refine o_putfield X172 hx hZ hown (host := "") (Or.inl (hw _ (List.mem_of_getElem? (i := 21) rfl))) Via.refl e172 f168 f166 (Or.inl (hw _ (List.mem_of_getElem? (i := 22) rfl))) (hw _ (List.mem_of_getElem? (i := 1) rfl)) (ty := .int) (by decide) rfl rfl (hb hby d_prog_80_method_6_code_72) (n := 75) rfl ?_
                intro T173 h173 X173 e173 W173 F173 E_173
                have f174 := f167.other W173 (Or.inr (slot_ne (Or.inl (hw _ (List.mem_of_getElem? (i := 11) rfl))) (Or.inl (hw _ (List.mem_of_getElem? (i := 22) rfl))) (by decide) (t := (.array .byte)) (t' := .int) (by decide) (by decide)))
                have f175 := V164.other W173 pne_a2_a1
                have zz173 : n0 ≤ h173.size := Nat.le_trans zz164 (Nat.le_of_eq W173.size.symm)
                have N176 := Fr.snoc X173 N169 pg_a1
                have K177 : Keep h0 h173 [a1, a2] := K170.wr W173 (Or.inl (List.mem_of_getElem? (i := 0) rfl))
                refine o_lloadN X173 hx (hb hby d_prog_80_method_6_code_75) (v := (o_sh (o_sh (o_sh (o_sh (o_sh (o_sh (o_zz p0)))))))) rfl (n := 76) rfl ?_
                refine o_l2i X173 hx (hb hby d_prog_80_method_6_code_76) (v := (o_sh (o_sh (o_sh (o_sh (o_sh (o_sh (o_zz p0))))))).toInt32) rfl (n := 77) rfl ?_
                refine o_i2b X173 hx (hb hby d_prog_80_method_6_code_77) (v := (o_lb (o_sh (o_sh (o_sh (o_sh (o_sh (o_sh (o_zz p0))))))))) rfl (n := 78) rfl ?_
                have f179 := f175.pad (pad_rep _ _ 1)
                refine o_bastore X173 hx hZ e173 f179 ((ws.length + 6)) (o_tn (by omega)) (o_rg (by omega)) (by simp) (w := (.int (o_lb (o_sh (o_sh (o_sh (o_sh (o_sh (o_sh (o_zz p0)))))))))) (congrArg Value.int (o_nar8 _)) (vs' := ((ws ++ [(o_mb (o_zz p0)), (o_mb (o_sh (o_zz p0))), (o_mb (o_sh (o_sh (o_zz p0)))), (o_mb (o_sh (o_sh (o_sh (o_zz p0))))), (o_mb (o_sh (o_sh (o_sh (o_sh (o_zz p0)))))), (o_mb (o_sh (o_sh (o_sh (o_sh (o_sh (o_zz p0))))))), (o_lb (o_sh (o_sh (o_sh (o_sh (o_sh (o_sh (o_zz p0))))))))]).map Value.int)) (o_set ws [(o_mb (o_zz p0)), (o_mb (o_sh (o_zz p0))), (o_mb (o_sh (o_sh (o_zz p0)))), (o_mb (o_sh (o_sh (o_sh (o_zz p0))))), (o_mb (o_sh (o_sh (o_sh (o_sh (o_zz p0)))))), (o_mb (o_sh (o_sh (o_sh (o_sh (o_sh (o_zz p0)))))))] _ 6 rfl) (hb hby d_prog_80_method_6_code_78) (n := 79) rfl ?_
                intro T178 h178 X178 e178 W178 V178
                have f180 := E_173.wr W178
                have f181 := f174.other W178 (Or.inl (Ne.symm pne_a2_a1))
                have f182 := F173.other W178 (Or.inl (Ne.symm pne_a2_a1))
                have zz178 : n0 ≤ h178.size := Nat.le_trans zz173 (Nat.le_of_eq W178.size.symm)
                have N183 := Fr.snoc X178 N176 pg_a2
                have K184 : Keep h0 h178 [a1, a2] := K177.wr W178 (Or.inl (List.mem_of_getElem? (i := 1) rfl))
                have hE : o_enc 9 (o_zz p0) = [(o_mb (o_zz p0)), (o_mb (o_sh (o_zz p0))), (o_mb (o_sh (o_sh (o_zz p0)))), (o_mb (o_sh (o_sh (o_sh (o_zz p0))))), (o_mb (o_sh (o_sh (o_sh (o_sh (o_zz p0)))))), (o_mb (o_sh (o_sh (o_sh (o_sh (o_sh (o_zz p0))))))), (o_lb (o_sh (o_sh (o_sh (o_sh (o_sh (o_sh (o_zz p0))))))))] := by simp [o_enc, hc22, hc22_1, hc22_2, hc22_3, hc22_4, hc22_5, hc22_6]
                have fV : Arv Z h178 a2 k2 .byte (4096 : Int32) ((ws ++ o_enc 9 (o_zz p0)).map Value.int) (.int (0 : Int32)) := by rw [hE]; exact V178
                have fL : Fld Z h178 a1 "com/example/estim365/estim365/formats/BytesOut" "length" "I" (.int (Int32.ofNat (ws ++ o_enc 9 (o_zz p0)).length)) := by rw [hE, List.length_append]; exact f182
                exact o_return X178 hx hret hlk (hb hby d_prog_80_method_6_code_79) (by decide) (by decide) e178 ⟨rfl, N183, K184, f180, f181, fL, fV⟩
              · refine o_ifN X164 hx (hb hby d_prog_80_method_6_code_22) (XT.ll_eq_f hc22_6) (n := 25) rfl ?_
                refine o_aloadN X164 hx (hb hby d_prog_80_method_6_code_25) (v := (.ref a1)) rfl rfl (n := 26) rfl ?_
                refine o_getfield X164 hx hZ hown (host := "") (Or.inl (hw _ (List.mem_of_getElem? (i := 10) rfl))) Via.refl e164 f167 (hb hby d_prog_80_method_6_code_26) (n := 29) rfl ?_
                intro T185 X185 e185
                refine o_aloadN X185 hx (hb hby d_prog_80_method_6_code_29) (v := (.ref a1)) rfl rfl (n := 30) rfl ?_
                refine o_dup X185 hx (hb hby d_prog_80_method_6_code_30) rfl (n := 31) rfl ?_
                refine o_getfield X185 hx hZ hown (host := "") (Or.inl (hw _ (List.mem_of_getElem? (i := 21) rfl))) Via.refl e185 f168 (hb hby d_prog_80_method_6_code_31) (n := 34) rfl ?_
                intro T186 X186 e186
                refine o_dup_x1 X186 hx (hb hby d_prog_80_method_6_code_34) rfl rfl (n := 35) rfl ?_
                refine o_iconst X186 hx (hb hby d_prog_80_method_6_code_35) (v := (1 : Int32)) rfl (n := 36) rfl ?_
                refine o_iadd X186 hx (hb hby d_prog_80_method_6_code_36) (v := (Int32.ofNat (ws.length + 7))) (o_suc _) (n := 37) rfl ?_
                refine o_putfield X186 hx hZ hown (host := "") (Or.inl (hw _ (List.mem_of_getElem? (i := 21) rfl))) Via.refl e186 f168 f166 (Or.inl (hw _ (List.mem_of_getElem? (i := 22) rfl))) (hw _ (List.mem_of_getElem? (i := 1) rfl)) (ty := .int) (by decide) rfl rfl (hb hby d_prog_80_method_6_code_37) (n := 40) rfl ?_
                intro T187 h187 X187 e187 W187 F187 E_187
                have f188 := f167.other W187 (Or.inr (slot_ne (Or.inl (hw _ (List.mem_of_getElem? (i := 11) rfl))) (Or.inl (hw _ (List.mem_of_getElem? (i := 22) rfl))) (by decide) (t := (.array .byte)) (t' := .int) (by decide) (by decide)))
                have f189 := V164.other W187 pne_a2_a1
                have zz187 : n0 ≤ h187.size := Nat.le_trans zz164 (Nat.le_of_eq W187.size.symm)
                have N190 := Fr.snoc X187 N169 pg_a1
                have K191 : Keep h0 h187 [a1, a2] := K170.wr W187 (Or.inl (List.mem_of_getElem? (i := 0) rfl))
                refine o_lloadN X187 hx (hb hby d_prog_80_method_6_code_40) (v := (o_sh (o_sh (o_sh (o_sh (o_sh (o_sh (o_zz p0)))))))) rfl (n := 41) rfl ?_
                refine o_ldc2_w X187 hx hZ (v := (127 : Int64)) hown (hw _ (List.mem_of_getElem? (i := 60) rfl)) (hb hby d_prog_80_method_6_code_41) (n := 44) rfl ?_
                refine o_land X187 hx (hb hby d_prog_80_method_6_code_44) (v := ((o_sh (o_sh (o_sh (o_sh (o_sh (o_sh (o_zz p0))))))) &&& (127 : Int64))) rfl (n := 45) rfl ?_
                refine o_ldc2_w X187 hx hZ (v := (128 : Int64)) hown (hw _ (List.mem_of_getElem? (i := 61) rfl)) (hb hby d_prog_80_method_6_code_45) (n := 48) rfl ?_
                refine o_lor X187 hx (hb hby d_prog_80_method_6_code_48) (v := (((o_sh (o_sh (o_sh (o_sh (o_sh (o_sh (o_zz p0))))))) &&& (127 : Int64)) ||| (128 : Int64))) rfl (n := 49) rfl ?_
                refine o_l2i X187 hx (hb hby d_prog_80_method_6_code_49) (v := (((o_sh (o_sh (o_sh (o_sh (o_sh (o_sh (o_zz p0))))))) &&& (127 : Int64)) ||| (128 : Int64)).toInt32) rfl (n := 50) rfl ?_
                refine o_i2b X187 hx (hb hby d_prog_80_method_6_code_50) (v := (o_mb (o_sh (o_sh (o_sh (o_sh (o_sh (o_sh (o_zz p0))))))))) rfl (n := 51) rfl ?_
                have f193 := f189.pad (pad_rep _ _ 1)
                refine o_bastore X187 hx hZ e187 f193 ((ws.length + 6)) (o_tn (by omega)) (o_rg (by omega)) (by simp) (w := (.int (o_mb (o_sh (o_sh (o_sh (o_sh (o_sh (o_sh (o_zz p0)))))))))) (congrArg Value.int (o_nar8 _)) (vs' := ((ws ++ [(o_mb (o_zz p0)), (o_mb (o_sh (o_zz p0))), (o_mb (o_sh (o_sh (o_zz p0)))), (o_mb (o_sh (o_sh (o_sh (o_zz p0))))), (o_mb (o_sh (o_sh (o_sh (o_sh (o_zz p0)))))), (o_mb (o_sh (o_sh (o_sh (o_sh (o_sh (o_zz p0))))))), (o_mb (o_sh (o_sh (o_sh (o_sh (o_sh (o_sh (o_zz p0))))))))]).map Value.int)) (o_set ws [(o_mb (o_zz p0)), (o_mb (o_sh (o_zz p0))), (o_mb (o_sh (o_sh (o_zz p0)))), (o_mb (o_sh (o_sh (o_sh (o_zz p0))))), (o_mb (o_sh (o_sh (o_sh (o_sh (o_zz p0)))))), (o_mb (o_sh (o_sh (o_sh (o_sh (o_sh (o_zz p0)))))))] _ 6 rfl) (hb hby d_prog_80_method_6_code_51) (n := 52) rfl ?_
                intro T192 h192 X192 e192 W192 V192
                have f194 := E_187.wr W192
                have f195 := f188.other W192 (Or.inl (Ne.symm pne_a2_a1))
                have f196 := F187.other W192 (Or.inl (Ne.symm pne_a2_a1))
                have zz192 : n0 ≤ h192.size := Nat.le_trans zz187 (Nat.le_of_eq W192.size.symm)
                have N197 := Fr.snoc X192 N190 pg_a2
                have K198 : Keep h0 h192 [a1, a2] := K191.wr W192 (Or.inl (List.mem_of_getElem? (i := 1) rfl))
                refine o_lloadN X192 hx (hb hby d_prog_80_method_6_code_52) (v := (o_sh (o_sh (o_sh (o_sh (o_sh (o_sh (o_zz p0)))))))) rfl (n := 53) rfl ?_
                refine o_bipush X192 hx (hb hby d_prog_80_method_6_code_53) (v := (7 : Int32)) rfl (n := 55) rfl ?_
                refine o_lushr X192 hx (hb hby d_prog_80_method_6_code_55) (v := (o_sh (o_sh (o_sh (o_sh (o_sh (o_sh (o_sh (o_zz p0))))))))) rfl (n := 56) rfl ?_
                refine o_lstoreN X192 hx (hb hby d_prog_80_method_6_code_56) (Ls' := #[.val (.ref a1), .val (.long p0), .second, .val (.long (o_sh (o_sh (o_sh (o_sh (o_sh (o_sh (o_sh (o_zz p0))))))))), .second]) rfl (n := 57) rfl ?_
                refine o_goto X192 hx (hb hby d_prog_80_method_6_code_57) (by decide) (n := 15) (by decide) ?_
                refine o_lloadN X192 hx (hb hby d_prog_80_method_6_code_15) (v := (o_sh (o_sh (o_sh (o_sh (o_sh (o_sh (o_sh (o_zz p0))))))))) rfl (n := 16) rfl ?_
                refine o_ldc2_w X192 hx hZ (v := (-128 : Int64)) hown (hw _ (List.mem_of_getElem? (i := 27) rfl)) (hb hby d_prog_80_method_6_code_16) (n := 19) rfl ?_
                refine o_land X192 hx (hb hby d_prog_80_method_6_code_19) (v := ((o_sh (o_sh (o_sh (o_sh (o_sh (o_sh (o_sh (o_zz p0)))))))) &&& (-128 : Int64))) rfl (n := 20) rfl ?_
                refine o_lconst X192 hx (hb hby d_prog_80_method_6_code_20) (v := (0 : Int64)) rfl (n := 21) rfl ?_
                refine o_lcmp X192 hx (hb hby d_prog_80_method_6_code_21) (n := 22) rfl ?_
                by_cases hc22_7 : ((o_sh (o_sh (o_sh (o_sh (o_sh (o_sh (o_sh (o_zz p0)))))))) &&& (-128 : Int64)) = (0 : Int64)
                · refine o_ifY X192 hx (hb hby d_prog_80_method_6_code_22) (XT.ll_eq_t hc22_7) (by decide) (n := 60) (by decide) ?_
                  refine o_aloadN X192 hx (hb hby d_prog_80_method_6_code_60) (v := (.ref a1)) rfl rfl (n := 61) rfl ?_
                  refine o_getfield X192 hx hZ hown (host := "") (Or.inl (hw _ (List.mem_of_getElem? (i := 10) rfl))) Via.refl e192 f195 (hb hby d_prog_80_method_6_code_61) (n := 64) rfl ?_
                  intro T199 X199 e199
                  refine o_aloadN X199 hx (hb hby d_prog_80_method_6_code_64) (v := (.ref a1)) rfl rfl (n := 65) rfl ?_
                  refine o_dup X199 hx (hb hby d_prog_80_method_6_code_65) rfl (n := 66) rfl ?_
                  refine o_getfield X199 hx hZ hown (host := "") (Or.inl (hw _ (List.mem_of_getElem? (i := 21) rfl))) Via.refl e199 f196 (hb hby d_prog_80_method_6_code_66) (n := 69) rfl ?_
                  intro T200 X200 e200
                  refine o_dup_x1 X200 hx (hb hby d_prog_80_method_6_code_69) rfl rfl (n := 70) rfl ?_
                  refine o_iconst X200 hx (hb hby d_prog_80_method_6_code_70) (v := (1 : Int32)) rfl (n := 71) rfl ?_
                  refine o_iadd X200 hx (hb hby d_prog_80_method_6_code_71) (v := (Int32.ofNat (ws.length + 8))) (o_suc _) (n := 72) rfl ?_
                  refine o_putfield X200 hx hZ hown (host := "") (Or.inl (hw _ (List.mem_of_getElem? (i := 21) rfl))) Via.refl e200 f196 f194 (Or.inl (hw _ (List.mem_of_getElem? (i := 22) rfl))) (hw _ (List.mem_of_getElem? (i := 1) rfl)) (ty := .int) (by decide) rfl rfl (hb hby d_prog_80_method_6_code_72) (n := 75) rfl ?_
                  intro T201 h201 X201 e201 W201 F201 E_201
                  have f202 := f195.other W201 (Or.inr (slot_ne (Or.inl (hw _ (List.mem_of_getElem? (i := 11) rfl))) (Or.inl (hw _ (List.mem_of_getElem? (i := 22) rfl))) (by decide) (t := (.array .byte)) (t' := .int) (by decide) (by decide)))
                  have f203 := V192.other W201 pne_a2_a1
                  have zz201 : n0 ≤ h201.size := Nat.le_trans zz192 (Nat.le_of_eq W201.size.symm)
                  have N204 := Fr.snoc X201 N197 pg_a1
                  have K205 : Keep h0 h201 [a1, a2] := K198.wr W201 (Or.inl (List.mem_of_getElem? (i := 0) rfl))
                  refine o_lloadN X201 hx (hb hby d_prog_80_method_6_code_75) (v := (o_sh (o_sh (o_sh (o_sh (o_sh (o_sh (o_sh (o_zz p0))))))))) rfl (n := 76) rfl ?_
                  refine o_l2i X201 hx (hb hby d_prog_80_method_6_code_76) (v := (o_sh (o_sh (o_sh (o_sh (o_sh (o_sh (o_sh (o_zz p0)))))))).toInt32) rfl (n := 77) rfl ?_
                  refine o_i2b X201 hx (hb hby d_prog_80_method_6_code_77) (v := (o_lb (o_sh (o_sh (o_sh (o_sh (o_sh (o_sh (o_sh (o_zz p0)))))))))) rfl (n := 78) rfl ?_
                  have f207 := f203.pad (pad_rep _ _ 1)
                  refine o_bastore X201 hx hZ e201 f207 ((ws.length + 7)) (o_tn (by omega)) (o_rg (by omega)) (by simp) (w := (.int (o_lb (o_sh (o_sh (o_sh (o_sh (o_sh (o_sh (o_sh (o_zz p0))))))))))) (congrArg Value.int (o_nar8 _)) (vs' := ((ws ++ [(o_mb (o_zz p0)), (o_mb (o_sh (o_zz p0))), (o_mb (o_sh (o_sh (o_zz p0)))), (o_mb (o_sh (o_sh (o_sh (o_zz p0))))), (o_mb (o_sh (o_sh (o_sh (o_sh (o_zz p0)))))), (o_mb (o_sh (o_sh (o_sh (o_sh (o_sh (o_zz p0))))))), (o_mb (o_sh (o_sh (o_sh (o_sh (o_sh (o_sh (o_zz p0)))))))), (o_lb (o_sh (o_sh (o_sh (o_sh (o_sh (o_sh (o_sh (o_zz p0)))))))))]).map Value.int)) (o_set ws [(o_mb (o_zz p0)), (o_mb (o_sh (o_zz p0))), (o_mb (o_sh (o_sh (o_zz p0)))), (o_mb (o_sh (o_sh (o_sh (o_zz p0))))), (o_mb (o_sh (o_sh (o_sh (o_sh (o_zz p0)))))), (o_mb (o_sh (o_sh (o_sh (o_sh (o_sh (o_zz p0))))))), (o_mb (o_sh (o_sh (o_sh (o_sh (o_sh (o_sh (o_zz p0))))))))] _ 7 rfl) (hb hby d_prog_80_method_6_code_78) (n := 79) rfl ?_
                  intro T206 h206 X206 e206 W206 V206
                  have f208 := E_201.wr W206
                  have f209 := f202.other W206 (Or.inl (Ne.symm pne_a2_a1))
                  have f210 := F201.other W206 (Or.inl (Ne.symm pne_a2_a1))
                  have zz206 : n0 ≤ h206.size := Nat.le_trans zz201 (Nat.le_of_eq W206.size.symm)
                  have N211 := Fr.snoc X206 N204 pg_a2
                  have K212 : Keep h0 h206 [a1, a2] := K205.wr W206 (Or.inl (List.mem_of_getElem? (i := 1) rfl))
                  have hE : o_enc 9 (o_zz p0) = [(o_mb (o_zz p0)), (o_mb (o_sh (o_zz p0))), (o_mb (o_sh (o_sh (o_zz p0)))), (o_mb (o_sh (o_sh (o_sh (o_zz p0))))), (o_mb (o_sh (o_sh (o_sh (o_sh (o_zz p0)))))), (o_mb (o_sh (o_sh (o_sh (o_sh (o_sh (o_zz p0))))))), (o_mb (o_sh (o_sh (o_sh (o_sh (o_sh (o_sh (o_zz p0)))))))), (o_lb (o_sh (o_sh (o_sh (o_sh (o_sh (o_sh (o_sh (o_zz p0)))))))))] := by simp [o_enc, hc22, hc22_1, hc22_2, hc22_3, hc22_4, hc22_5, hc22_6, hc22_7]
                  have fV : Arv Z h206 a2 k2 .byte (4096 : Int32) ((ws ++ o_enc 9 (o_zz p0)).map Value.int) (.int (0 : Int32)) := by rw [hE]; exact V206
                  have fL : Fld Z h206 a1 "com/example/estim365/estim365/formats/BytesOut" "length" "I" (.int (Int32.ofNat (ws ++ o_enc 9 (o_zz p0)).length)) := by rw [hE, List.length_append]; exact f210
                  exact o_return X206 hx hret hlk (hb hby d_prog_80_method_6_code_79) (by decide) (by decide) e206 ⟨rfl, N211, K212, f208, f209, fL, fV⟩
                · refine o_ifN X192 hx (hb hby d_prog_80_method_6_code_22) (XT.ll_eq_f hc22_7) (n := 25) rfl ?_
                  refine o_aloadN X192 hx (hb hby d_prog_80_method_6_code_25) (v := (.ref a1)) rfl rfl (n := 26) rfl ?_
                  refine o_getfield X192 hx hZ hown (host := "") (Or.inl (hw _ (List.mem_of_getElem? (i := 10) rfl))) Via.refl e192 f195 (hb hby d_prog_80_method_6_code_26) (n := 29) rfl ?_
                  intro T213 X213 e213
                  refine o_aloadN X213 hx (hb hby d_prog_80_method_6_code_29) (v := (.ref a1)) rfl rfl (n := 30) rfl ?_
                  refine o_dup X213 hx (hb hby d_prog_80_method_6_code_30) rfl (n := 31) rfl ?_
                  refine o_getfield X213 hx hZ hown (host := "") (Or.inl (hw _ (List.mem_of_getElem? (i := 21) rfl))) Via.refl e213 f196 (hb hby d_prog_80_method_6_code_31) (n := 34) rfl ?_
                  intro T214 X214 e214
                  refine o_dup_x1 X214 hx (hb hby d_prog_80_method_6_code_34) rfl rfl (n := 35) rfl ?_
                  refine o_iconst X214 hx (hb hby d_prog_80_method_6_code_35) (v := (1 : Int32)) rfl (n := 36) rfl ?_
                  refine o_iadd X214 hx (hb hby d_prog_80_method_6_code_36) (v := (Int32.ofNat (ws.length + 8))) (o_suc _) (n := 37) rfl ?_
                  refine o_putfield X214 hx hZ hown (host := "") (Or.inl (hw _ (List.mem_of_getElem? (i := 21) rfl))) Via.refl e214 f196 f194 (Or.inl (hw _ (List.mem_of_getElem? (i := 22) rfl))) (hw _ (List.mem_of_getElem? (i := 1) rfl)) (ty := .int) (by decide) rfl rfl (hb hby d_prog_80_method_6_code_37) (n := 40) rfl ?_
                  intro T215 h215 X215 e215 W215 F215 E_215
                  have f216 := f195.other W215 (Or.inr (slot_ne (Or.inl (hw _ (List.mem_of_getElem? (i := 11) rfl))) (Or.inl (hw _ (List.mem_of_getElem? (i := 22) rfl))) (by decide) (t := (.array .byte)) (t' := .int) (by decide) (by decide)))
                  have f217 := V192.other W215 pne_a2_a1
                  have zz215 : n0 ≤ h215.size := Nat.le_trans zz192 (Nat.le_of_eq W215.size.symm)
                  have N218 := Fr.snoc X215 N197 pg_a1
                  have K219 : Keep h0 h215 [a1, a2] := K198.wr W215 (Or.inl (List.mem_of_getElem? (i := 0) rfl))
                  refine o_lloadN X215 hx (hb hby d_prog_80_method_6_code_40) (v := (o_sh (o_sh (o_sh (o_sh (o_sh (o_sh (o_sh (o_zz p0))))))))) rfl (n := 41) rfl ?_
                  refine o_ldc2_w X215 hx hZ (v := (127 : Int64)) hown (hw _ (List.mem_of_getElem? (i := 60) rfl)) (hb hby d_prog_80_method_6_code_41) (n := 44) rfl ?_
                  refine o_land X215 hx (hb hby d_prog_80_method_6_code_44) (v := ((o_sh (o_sh (o_sh (o_sh (o_sh (o_sh (o_sh (o_zz p0)))))))) &&& (127 : Int64))) rfl (n := 45) rfl ?_
                  refine o_ldc2_w X215 hx hZ (v := (128 : Int64)) hown (hw _ (List.mem_of_getElem? (i := 61) rfl)) (hb hby d_prog_80_method_6_code_45) (n := 48) rfl ?_
                  refine o_lor X215 hx (hb hby d_prog_80_method_6_code_48) (v := (((o_sh (o_sh (o_sh (o_sh (o_sh (o_sh (o_sh (o_zz p0)))))))) &&& (127 : Int64)) ||| (128 : Int64))) rfl (n := 49) rfl ?_
                  refine o_l2i X215 hx (hb hby d_prog_80_method_6_code_49) (v := (((o_sh (o_sh (o_sh (o_sh (o_sh (o_sh (o_sh (o_zz p0)))))))) &&& (127 : Int64)) ||| (128 : Int64)).toInt32) rfl (n := 50) rfl ?_
                  refine o_i2b X215 hx (hb hby d_prog_80_method_6_code_50) (v := (o_mb (o_sh (o_sh (o_sh (o_sh (o_sh (o_sh (o_sh (o_zz p0)))))))))) rfl (n := 51) rfl ?_
                  have f221 := f217.pad (pad_rep _ _ 1)
                  refine o_bastore X215 hx hZ e215 f221 ((ws.length + 7)) (o_tn (by omega)) (o_rg (by omega)) (by simp) (w := (.int (o_mb (o_sh (o_sh (o_sh (o_sh (o_sh (o_sh (o_sh (o_zz p0))))))))))) (congrArg Value.int (o_nar8 _)) (vs' := ((ws ++ [(o_mb (o_zz p0)), (o_mb (o_sh (o_zz p0))), (o_mb (o_sh (o_sh (o_zz p0)))), (o_mb (o_sh (o_sh (o_sh (o_zz p0))))), (o_mb (o_sh (o_sh (o_sh (o_sh (o_zz p0)))))), (o_mb (o_sh (o_sh (o_sh (o_sh (o_sh (o_zz p0))))))), (o_mb (o_sh (o_sh (o_sh (o_sh (o_sh (o_sh (o_zz p0)))))))), (o_mb (o_sh (o_sh (o_sh (o_sh (o_sh (o_sh (o_sh (o_zz p0)))))))))]).map Value.int)) (o_set ws [(o_mb (o_zz p0)), (o_mb (o_sh (o_zz p0))), (o_mb (o_sh (o_sh (o_zz p0)))), (o_mb (o_sh (o_sh (o_sh (o_zz p0))))), (o_mb (o_sh (o_sh (o_sh (o_sh (o_zz p0)))))), (o_mb (o_sh (o_sh (o_sh (o_sh (o_sh (o_zz p0))))))), (o_mb (o_sh (o_sh (o_sh (o_sh (o_sh (o_sh (o_zz p0))))))))] _ 7 rfl) (hb hby d_prog_80_method_6_code_51) (n := 52) rfl ?_
                  intro T220 h220 X220 e220 W220 V220
                  have f222 := E_215.wr W220
                  have f223 := f216.other W220 (Or.inl (Ne.symm pne_a2_a1))
                  have f224 := F215.other W220 (Or.inl (Ne.symm pne_a2_a1))
                  have zz220 : n0 ≤ h220.size := Nat.le_trans zz215 (Nat.le_of_eq W220.size.symm)
                  have N225 := Fr.snoc X220 N218 pg_a2
                  have K226 : Keep h0 h220 [a1, a2] := K219.wr W220 (Or.inl (List.mem_of_getElem? (i := 1) rfl))
                  refine o_lloadN X220 hx (hb hby d_prog_80_method_6_code_52) (v := (o_sh (o_sh (o_sh (o_sh (o_sh (o_sh (o_sh (o_zz p0))))))))) rfl (n := 53) rfl ?_
                  refine o_bipush X220 hx (hb hby d_prog_80_method_6_code_53) (v := (7 : Int32)) rfl (n := 55) rfl ?_
                  refine o_lushr X220 hx (hb hby d_prog_80_method_6_code_55) (v := (o_sh (o_sh (o_sh (o_sh (o_sh (o_sh (o_sh (o_sh (o_zz p0)))))))))) rfl (n := 56) rfl ?_
                  refine o_lstoreN X220 hx (hb hby d_prog_80_method_6_code_56) (Ls' := #[.val (.ref a1), .val (.long p0), .second, .val (.long (o_sh (o_sh (o_sh (o_sh (o_sh (o_sh (o_sh (o_sh (o_zz p0)))))))))), .second]) rfl (n := 57) rfl ?_
                  refine o_goto X220 hx (hb hby d_prog_80_method_6_code_57) (by decide) (n := 15) (by decide) ?_
                  refine o_lloadN X220 hx (hb hby d_prog_80_method_6_code_15) (v := (o_sh (o_sh (o_sh (o_sh (o_sh (o_sh (o_sh (o_sh (o_zz p0)))))))))) rfl (n := 16) rfl ?_
                  refine o_ldc2_w X220 hx hZ (v := (-128 : Int64)) hown (hw _ (List.mem_of_getElem? (i := 27) rfl)) (hb hby d_prog_80_method_6_code_16) (n := 19) rfl ?_
                  refine o_land X220 hx (hb hby d_prog_80_method_6_code_19) (v := ((o_sh (o_sh (o_sh (o_sh (o_sh (o_sh (o_sh (o_sh (o_zz p0))))))))) &&& (-128 : Int64))) rfl (n := 20) rfl ?_
                  refine o_lconst X220 hx (hb hby d_prog_80_method_6_code_20) (v := (0 : Int64)) rfl (n := 21) rfl ?_
                  refine o_lcmp X220 hx (hb hby d_prog_80_method_6_code_21) (n := 22) rfl ?_
                  by_cases hc22_8 : ((o_sh (o_sh (o_sh (o_sh (o_sh (o_sh (o_sh (o_sh (o_zz p0))))))))) &&& (-128 : Int64)) = (0 : Int64)
                  · refine o_ifY X220 hx (hb hby d_prog_80_method_6_code_22) (XT.ll_eq_t hc22_8) (by decide) (n := 60) (by decide) ?_
                    refine o_aloadN X220 hx (hb hby d_prog_80_method_6_code_60) (v := (.ref a1)) rfl rfl (n := 61) rfl ?_
                    refine o_getfield X220 hx hZ hown (host := "") (Or.inl (hw _ (List.mem_of_getElem? (i := 10) rfl))) Via.refl e220 f223 (hb hby d_prog_80_method_6_code_61) (n := 64) rfl ?_
                    intro T227 X227 e227
                    refine o_aloadN X227 hx (hb hby d_prog_80_method_6_code_64) (v := (.ref a1)) rfl rfl (n := 65) rfl ?_
                    refine o_dup X227 hx (hb hby d_prog_80_method_6_code_65) rfl (n := 66) rfl ?_
                    refine o_getfield X227 hx hZ hown (host := "") (Or.inl (hw _ (List.mem_of_getElem? (i := 21) rfl))) Via.refl e227 f224 (hb hby d_prog_80_method_6_code_66) (n := 69) rfl ?_
                    intro T228 X228 e228
                    refine o_dup_x1 X228 hx (hb hby d_prog_80_method_6_code_69) rfl rfl (n := 70) rfl ?_
                    refine o_iconst X228 hx (hb hby d_prog_80_method_6_code_70) (v := (1 : Int32)) rfl (n := 71) rfl ?_
                    refine o_iadd X228 hx (hb hby d_prog_80_method_6_code_71) (v := (Int32.ofNat (ws.length + 9))) (o_suc _) (n := 72) rfl ?_
                    refine o_putfield X228 hx hZ hown (host := "") (Or.inl (hw _ (List.mem_of_getElem? (i := 21) rfl))) Via.refl e228 f224 f222 (Or.inl (hw _ (List.mem_of_getElem? (i := 22) rfl))) (hw _ (List.mem_of_getElem? (i := 1) rfl)) (ty := .int) (by decide) rfl rfl (hb hby d_prog_80_method_6_code_72) (n := 75) rfl ?_
                    intro T229 h229 X229 e229 W229 F229 E_229
                    have f230 := f223.other W229 (Or.inr (slot_ne (Or.inl (hw _ (List.mem_of_getElem? (i := 11) rfl))) (Or.inl (hw _ (List.mem_of_getElem? (i := 22) rfl))) (by decide) (t := (.array .byte)) (t' := .int) (by decide) (by decide)))
                    have f231 := V220.other W229 pne_a2_a1
                    have zz229 : n0 ≤ h229.size := Nat.le_trans zz220 (Nat.le_of_eq W229.size.symm)
                    have N232 := Fr.snoc X229 N225 pg_a1
                    have K233 : Keep h0 h229 [a1, a2] := K226.wr W229 (Or.inl (List.mem_of_getElem? (i := 0) rfl))
                    refine o_lloadN X229 hx (hb hby d_prog_80_method_6_code_75) (v := (o_sh (o_sh (o_sh (o_sh (o_sh (o_sh (o_sh (o_sh (o_zz p0)))))))))) rfl (n := 76) rfl ?_
                    refine o_l2i X229 hx (hb hby d_prog_80_method_6_code_76) (v := (o_sh (o_sh (o_sh (o_sh (o_sh (o_sh (o_sh (o_sh (o_zz p0))))))))).toInt32) rfl (n := 77) rfl ?_
                    refine o_i2b X229 hx (hb hby d_prog_80_method_6_code_77) (v := (o_lb (o_sh (o_sh (o_sh (o_sh (o_sh (o_sh (o_sh (o_sh (o_zz p0))))))))))) rfl (n := 78) rfl ?_
                    have f235 := f231.pad (pad_rep _ _ 1)
                    refine o_bastore X229 hx hZ e229 f235 ((ws.length + 8)) (o_tn (by omega)) (o_rg (by omega)) (by simp) (w := (.int (o_lb (o_sh (o_sh (o_sh (o_sh (o_sh (o_sh (o_sh (o_sh (o_zz p0)))))))))))) (congrArg Value.int (o_nar8 _)) (vs' := ((ws ++ [(o_mb (o_zz p0)), (o_mb (o_sh (o_zz p0))), (o_mb (o_sh (o_sh (o_zz p0)))), (o_mb (o_sh (o_sh (o_sh (o_zz p0))))), (o_mb (o_sh (o_sh (o_sh (o_sh (o_zz p0)))))), (o_mb (o_sh (o_sh (o_sh (o_sh (o_sh (o_zz p0))))))), (o_mb (o_sh (o_sh (o_sh (o_sh (o_sh (o_sh (o_zz p0)))))))), (o_mb (o_sh (o_sh (o_sh (o_sh (o_sh (o_sh (o_sh (o_zz p0))))))))), (o_lb (o_sh (o_sh (o_sh (o_sh (o_sh (o_sh (o_sh (o_sh (o_zz p0))))))))))]).map Value.int)) (o_set ws [(o_mb (o_zz p0)), (o_mb (o_sh (o_zz p0))), (o_mb (o_sh (o_sh (o_zz p0)))), (o_mb (o_sh (o_sh (o_sh (o_zz p0))))), (o_mb (o_sh (o_sh (o_sh (o_sh (o_zz p0)))))), (o_mb (o_sh (o_sh (o_sh (o_sh (o_sh (o_zz p0))))))), (o_mb (o_sh (o_sh (o_sh (o_sh (o_sh (o_sh (o_zz p0)))))))), (o_mb (o_sh (o_sh (o_sh (o_sh (o_sh (o_sh (o_sh (o_zz p0)))))))))] _ 8 rfl) (hb hby d_prog_80_method_6_code_78) (n := 79) rfl ?_
                    intro T234 h234 X234 e234 W234 V234
                    have f236 := E_229.wr W234
                    have f237 := f230.other W234 (Or.inl (Ne.symm pne_a2_a1))
                    have f238 := F229.other W234 (Or.inl (Ne.symm pne_a2_a1))
                    have zz234 : n0 ≤ h234.size := Nat.le_trans zz229 (Nat.le_of_eq W234.size.symm)
                    have N239 := Fr.snoc X234 N232 pg_a2
                    have K240 : Keep h0 h234 [a1, a2] := K233.wr W234 (Or.inl (List.mem_of_getElem? (i := 1) rfl))
                    have hE : o_enc 9 (o_zz p0) = [(o_mb (o_zz p0)), (o_mb (o_sh (o_zz p0))), (o_mb (o_sh (o_sh (o_zz p0)))), (o_mb (o_sh (o_sh (o_sh (o_zz p0))))), (o_mb (o_sh (o_sh (o_sh (o_sh (o_zz p0)))))), (o_mb (o_sh (o_sh (o_sh (o_sh (o_sh (o_zz p0))))))), (o_mb (o_sh (o_sh (o_sh (o_sh (o_sh (o_sh (o_zz p0)))))))), (o_mb (o_sh (o_sh (o_sh (o_sh (o_sh (o_sh (o_sh (o_zz p0))))))))), (o_lb (o_sh (o_sh (o_sh (o_sh (o_sh (o_sh (o_sh (o_sh (o_zz p0))))))))))] := by simp [o_enc, hc22, hc22_1, hc22_2, hc22_3, hc22_4, hc22_5, hc22_6, hc22_7, hc22_8]
                    have fV : Arv Z h234 a2 k2 .byte (4096 : Int32) ((ws ++ o_enc 9 (o_zz p0)).map Value.int) (.int (0 : Int32)) := by rw [hE]; exact V234
                    have fL : Fld Z h234 a1 "com/example/estim365/estim365/formats/BytesOut" "length" "I" (.int (Int32.ofNat (ws ++ o_enc 9 (o_zz p0)).length)) := by rw [hE, List.length_append]; exact f238
                    exact o_return X234 hx hret hlk (hb hby d_prog_80_method_6_code_79) (by decide) (by decide) e234 ⟨rfl, N239, K240, f236, f237, fL, fV⟩
                  · refine o_ifN X220 hx (hb hby d_prog_80_method_6_code_22) (XT.ll_eq_f hc22_8) (n := 25) rfl ?_
                    refine o_aloadN X220 hx (hb hby d_prog_80_method_6_code_25) (v := (.ref a1)) rfl rfl (n := 26) rfl ?_
                    refine o_getfield X220 hx hZ hown (host := "") (Or.inl (hw _ (List.mem_of_getElem? (i := 10) rfl))) Via.refl e220 f223 (hb hby d_prog_80_method_6_code_26) (n := 29) rfl ?_
                    intro T241 X241 e241
                    refine o_aloadN X241 hx (hb hby d_prog_80_method_6_code_29) (v := (.ref a1)) rfl rfl (n := 30) rfl ?_
                    refine o_dup X241 hx (hb hby d_prog_80_method_6_code_30) rfl (n := 31) rfl ?_
                    refine o_getfield X241 hx hZ hown (host := "") (Or.inl (hw _ (List.mem_of_getElem? (i := 21) rfl))) Via.refl e241 f224 (hb hby d_prog_80_method_6_code_31) (n := 34) rfl ?_
                    intro T242 X242 e242
                    refine o_dup_x1 X242 hx (hb hby d_prog_80_method_6_code_34) rfl rfl (n := 35) rfl ?_
                    refine o_iconst X242 hx (hb hby d_prog_80_method_6_code_35) (v := (1 : Int32)) rfl (n := 36) rfl ?_
                    refine o_iadd X242 hx (hb hby d_prog_80_method_6_code_36) (v := (Int32.ofNat (ws.length + 9))) (o_suc _) (n := 37) rfl ?_
                    refine o_putfield X242 hx hZ hown (host := "") (Or.inl (hw _ (List.mem_of_getElem? (i := 21) rfl))) Via.refl e242 f224 f222 (Or.inl (hw _ (List.mem_of_getElem? (i := 22) rfl))) (hw _ (List.mem_of_getElem? (i := 1) rfl)) (ty := .int) (by decide) rfl rfl (hb hby d_prog_80_method_6_code_37) (n := 40) rfl ?_
                    intro T243 h243 X243 e243 W243 F243 E_243
                    have f244 := f223.other W243 (Or.inr (slot_ne (Or.inl (hw _ (List.mem_of_getElem? (i := 11) rfl))) (Or.inl (hw _ (List.mem_of_getElem? (i := 22) rfl))) (by decide) (t := (.array .byte)) (t' := .int) (by decide) (by decide)))
                    have f245 := V220.other W243 pne_a2_a1
                    have zz243 : n0 ≤ h243.size := Nat.le_trans zz220 (Nat.le_of_eq W243.size.symm)
                    have N246 := Fr.snoc X243 N225 pg_a1
                    have K247 : Keep h0 h243 [a1, a2] := K226.wr W243 (Or.inl (List.mem_of_getElem? (i := 0) rfl))
                    refine o_lloadN X243 hx (hb hby d_prog_80_method_6_code_40) (v := (o_sh (o_sh (o_sh (o_sh (o_sh (o_sh (o_sh (o_sh (o_zz p0)))))))))) rfl (n := 41) rfl ?_
                    refine o_ldc2_w X243 hx hZ (v := (127 : Int64)) hown (hw _ (List.mem_of_getElem? (i := 60) rfl)) (hb hby d_prog_80_method_6_code_41) (n := 44) rfl ?_
                    refine o_land X243 hx (hb hby d_prog_80_method_6_code_44) (v := ((o_sh (o_sh (o_sh (o_sh (o_sh (o_sh (o_sh (o_sh (o_zz p0))))))))) &&& (127 : Int64))) rfl (n := 45) rfl ?_
                    refine o_ldc2_w X243 hx hZ (v := (128 : Int64)) hown (hw _ (List.mem_of_getElem? (i := 61) rfl)) (hb hby d_prog_80_method_6_code_45) (n := 48) rfl ?_
                    refine o_lor X243 hx (hb hby d_prog_80_method_6_code_48) (v := (((o_sh (o_sh (o_sh (o_sh (o_sh (o_sh (o_sh (o_sh (o_zz p0))))))))) &&& (127 : Int64)) ||| (128 : Int64))) rfl (n := 49) rfl ?_
                    refine o_l2i X243 hx (hb hby d_prog_80_method_6_code_49) (v := (((o_sh (o_sh (o_sh (o_sh (o_sh (o_sh (o_sh (o_sh (o_zz p0))))))))) &&& (127 : Int64)) ||| (128 : Int64)).toInt32) rfl (n := 50) rfl ?_
                    refine o_i2b X243 hx (hb hby d_prog_80_method_6_code_50) (v := (o_mb (o_sh (o_sh (o_sh (o_sh (o_sh (o_sh (o_sh (o_sh (o_zz p0))))))))))) rfl (n := 51) rfl ?_
                    have f249 := f245.pad (pad_rep _ _ 1)
                    refine o_bastore X243 hx hZ e243 f249 ((ws.length + 8)) (o_tn (by omega)) (o_rg (by omega)) (by simp) (w := (.int (o_mb (o_sh (o_sh (o_sh (o_sh (o_sh (o_sh (o_sh (o_sh (o_zz p0)))))))))))) (congrArg Value.int (o_nar8 _)) (vs' := ((ws ++ [(o_mb (o_zz p0)), (o_mb (o_sh (o_zz p0))), (o_mb (o_sh (o_sh (o_zz p0)))), (o_mb (o_sh (o_sh (o_sh (o_zz p0))))), (o_mb (o_sh (o_sh (o_sh (o_sh (o_zz p0)))))), (o_mb (o_sh (o_sh (o_sh (o_sh (o_sh (o_zz p0))))))), (o_mb (o_sh (o_sh (o_sh (o_sh (o_sh (o_sh (o_zz p0)))))))), (o_mb (o_sh (o_sh (o_sh (o_sh (o_sh (o_sh (o_sh (o_zz p0))))))))), (o_mb (o_sh (o_sh (o_sh (o_sh (o_sh (o_sh (o_sh (o_sh (o_zz p0))))))))))]).map Value.int)) (o_set ws [(o_mb (o_zz p0)), (o_mb (o_sh (o_zz p0))), (o_mb (o_sh (o_sh (o_zz p0)))), (o_mb (o_sh (o_sh (o_sh (o_zz p0))))), (o_mb (o_sh (o_sh (o_sh (o_sh (o_zz p0)))))), (o_mb (o_sh (o_sh (o_sh (o_sh (o_sh (o_zz p0))))))), (o_mb (o_sh (o_sh (o_sh (o_sh (o_sh (o_sh (o_zz p0)))))))), (o_mb (o_sh (o_sh (o_sh (o_sh (o_sh (o_sh (o_sh (o_zz p0)))))))))] _ 8 rfl) (hb hby d_prog_80_method_6_code_51) (n := 52) rfl ?_
                    intro T248 h248 X248 e248 W248 V248
                    have f250 := E_243.wr W248
                    have f251 := f244.other W248 (Or.inl (Ne.symm pne_a2_a1))
                    have f252 := F243.other W248 (Or.inl (Ne.symm pne_a2_a1))
                    have zz248 : n0 ≤ h248.size := Nat.le_trans zz243 (Nat.le_of_eq W248.size.symm)
                    have N253 := Fr.snoc X248 N246 pg_a2
                    have K254 : Keep h0 h248 [a1, a2] := K247.wr W248 (Or.inl (List.mem_of_getElem? (i := 1) rfl))
                    refine o_lloadN X248 hx (hb hby d_prog_80_method_6_code_52) (v := (o_sh (o_sh (o_sh (o_sh (o_sh (o_sh (o_sh (o_sh (o_zz p0)))))))))) rfl (n := 53) rfl ?_
                    refine o_bipush X248 hx (hb hby d_prog_80_method_6_code_53) (v := (7 : Int32)) rfl (n := 55) rfl ?_
                    refine o_lushr X248 hx (hb hby d_prog_80_method_6_code_55) (v := (o_sh (o_sh (o_sh (o_sh (o_sh (o_sh (o_sh (o_sh (o_sh (o_zz p0))))))))))) rfl (n := 56) rfl ?_
                    refine o_lstoreN X248 hx (hb hby d_prog_80_method_6_code_56) (Ls' := #[.val (.ref a1), .val (.long p0), .second, .val (.long (o_sh (o_sh (o_sh (o_sh (o_sh (o_sh (o_sh (o_sh (o_sh (o_zz p0))))))))))), .second]) rfl (n := 57) rfl ?_
                    refine o_goto X248 hx (hb hby d_prog_80_method_6_code_57) (by decide) (n := 15) (by decide) ?_
                    refine o_lloadN X248 hx (hb hby d_prog_80_method_6_code_15) (v := (o_sh (o_sh (o_sh (o_sh (o_sh (o_sh (o_sh (o_sh (o_sh (o_zz p0))))))))))) rfl (n := 16) rfl ?_
                    refine o_ldc2_w X248 hx hZ (v := (-128 : Int64)) hown (hw _ (List.mem_of_getElem? (i := 27) rfl)) (hb hby d_prog_80_method_6_code_16) (n := 19) rfl ?_
                    refine o_land X248 hx (hb hby d_prog_80_method_6_code_19) (v := ((o_sh (o_sh (o_sh (o_sh (o_sh (o_sh (o_sh (o_sh (o_sh (o_zz p0)))))))))) &&& (-128 : Int64))) rfl (n := 20) rfl ?_
                    refine o_lconst X248 hx (hb hby d_prog_80_method_6_code_20) (v := (0 : Int64)) rfl (n := 21) rfl ?_
                    refine o_lcmp X248 hx (hb hby d_prog_80_method_6_code_21) (n := 22) rfl ?_
                    refine o_ifY X248 hx (hb hby d_prog_80_method_6_code_22) (XT.ll_eq_t (o_last p0)) (by decide) (n := 60) (by decide) ?_
                    refine o_aloadN X248 hx (hb hby d_prog_80_method_6_code_60) (v := (.ref a1)) rfl rfl (n := 61) rfl ?_
                    refine o_getfield X248 hx hZ hown (host := "") (Or.inl (hw _ (List.mem_of_getElem? (i := 10) rfl))) Via.refl e248 f251 (hb hby d_prog_80_method_6_code_61) (n := 64) rfl ?_
                    intro T255 X255 e255
                    refine o_aloadN X255 hx (hb hby d_prog_80_method_6_code_64) (v := (.ref a1)) rfl rfl (n := 65) rfl ?_
                    refine o_dup X255 hx (hb hby d_prog_80_method_6_code_65) rfl (n := 66) rfl ?_
                    refine o_getfield X255 hx hZ hown (host := "") (Or.inl (hw _ (List.mem_of_getElem? (i := 21) rfl))) Via.refl e255 f252 (hb hby d_prog_80_method_6_code_66) (n := 69) rfl ?_
                    intro T256 X256 e256
                    refine o_dup_x1 X256 hx (hb hby d_prog_80_method_6_code_69) rfl rfl (n := 70) rfl ?_
                    refine o_iconst X256 hx (hb hby d_prog_80_method_6_code_70) (v := (1 : Int32)) rfl (n := 71) rfl ?_
                    refine o_iadd X256 hx (hb hby d_prog_80_method_6_code_71) (v := (Int32.ofNat (ws.length + 10))) (o_suc _) (n := 72) rfl ?_
                    refine o_putfield X256 hx hZ hown (host := "") (Or.inl (hw _ (List.mem_of_getElem? (i := 21) rfl))) Via.refl e256 f252 f250 (Or.inl (hw _ (List.mem_of_getElem? (i := 22) rfl))) (hw _ (List.mem_of_getElem? (i := 1) rfl)) (ty := .int) (by decide) rfl rfl (hb hby d_prog_80_method_6_code_72) (n := 75) rfl ?_
                    intro T257 h257 X257 e257 W257 F257 E_257
                    have f258 := f251.other W257 (Or.inr (slot_ne (Or.inl (hw _ (List.mem_of_getElem? (i := 11) rfl))) (Or.inl (hw _ (List.mem_of_getElem? (i := 22) rfl))) (by decide) (t := (.array .byte)) (t' := .int) (by decide) (by decide)))
                    have f259 := V248.other W257 pne_a2_a1
                    have zz257 : n0 ≤ h257.size := Nat.le_trans zz248 (Nat.le_of_eq W257.size.symm)
                    have N260 := Fr.snoc X257 N253 pg_a1
                    have K261 : Keep h0 h257 [a1, a2] := K254.wr W257 (Or.inl (List.mem_of_getElem? (i := 0) rfl))
                    refine o_lloadN X257 hx (hb hby d_prog_80_method_6_code_75) (v := (o_sh (o_sh (o_sh (o_sh (o_sh (o_sh (o_sh (o_sh (o_sh (o_zz p0))))))))))) rfl (n := 76) rfl ?_
                    refine o_l2i X257 hx (hb hby d_prog_80_method_6_code_76) (v := (o_sh (o_sh (o_sh (o_sh (o_sh (o_sh (o_sh (o_sh (o_sh (o_zz p0)))))))))).toInt32) rfl (n := 77) rfl ?_
                    refine o_i2b X257 hx (hb hby d_prog_80_method_6_code_77) (v := (o_lb (o_sh (o_sh (o_sh (o_sh (o_sh (o_sh (o_sh (o_sh (o_sh (o_zz p0)))))))))))) rfl (n := 78) rfl ?_
                    have f263 := f259.pad (pad_rep _ _ 1)
                    refine o_bastore X257 hx hZ e257 f263 ((ws.length + 9)) (o_tn (by omega)) (o_rg (by omega)) (by simp) (w := (.int (o_lb (o_sh (o_sh (o_sh (o_sh (o_sh (o_sh (o_sh (o_sh (o_sh (o_zz p0))))))))))))) (congrArg Value.int (o_nar8 _)) (vs' := ((ws ++ [(o_mb (o_zz p0)), (o_mb (o_sh (o_zz p0))), (o_mb (o_sh (o_sh (o_zz p0)))), (o_mb (o_sh (o_sh (o_sh (o_zz p0))))), (o_mb (o_sh (o_sh (o_sh (o_sh (o_zz p0)))))), (o_mb (o_sh (o_sh (o_sh (o_sh (o_sh (o_zz p0))))))), (o_mb (o_sh (o_sh (o_sh (o_sh (o_sh (o_sh (o_zz p0)))))))), (o_mb (o_sh (o_sh (o_sh (o_sh (o_sh (o_sh (o_sh (o_zz p0))))))))), (o_mb (o_sh (o_sh (o_sh (o_sh (o_sh (o_sh (o_sh (o_sh (o_zz p0)))))))))), (o_lb (o_sh (o_sh (o_sh (o_sh (o_sh (o_sh (o_sh (o_sh (o_sh (o_zz p0)))))))))))]).map Value.int)) (o_set ws [(o_mb (o_zz p0)), (o_mb (o_sh (o_zz p0))), (o_mb (o_sh (o_sh (o_zz p0)))), (o_mb (o_sh (o_sh (o_sh (o_zz p0))))), (o_mb (o_sh (o_sh (o_sh (o_sh (o_zz p0)))))), (o_mb (o_sh (o_sh (o_sh (o_sh (o_sh (o_zz p0))))))), (o_mb (o_sh (o_sh (o_sh (o_sh (o_sh (o_sh (o_zz p0)))))))), (o_mb (o_sh (o_sh (o_sh (o_sh (o_sh (o_sh (o_sh (o_zz p0))))))))), (o_mb (o_sh (o_sh (o_sh (o_sh (o_sh (o_sh (o_sh (o_sh (o_zz p0))))))))))] _ 9 rfl) (hb hby d_prog_80_method_6_code_78) (n := 79) rfl ?_
                    intro T262 h262 X262 e262 W262 V262
                    have f264 := E_257.wr W262
                    have f265 := f258.other W262 (Or.inl (Ne.symm pne_a2_a1))
                    have f266 := F257.other W262 (Or.inl (Ne.symm pne_a2_a1))
                    have zz262 : n0 ≤ h262.size := Nat.le_trans zz257 (Nat.le_of_eq W262.size.symm)
                    have N267 := Fr.snoc X262 N260 pg_a2
                    have K268 : Keep h0 h262 [a1, a2] := K261.wr W262 (Or.inl (List.mem_of_getElem? (i := 1) rfl))
                    have hE : o_enc 9 (o_zz p0) = [(o_mb (o_zz p0)), (o_mb (o_sh (o_zz p0))), (o_mb (o_sh (o_sh (o_zz p0)))), (o_mb (o_sh (o_sh (o_sh (o_zz p0))))), (o_mb (o_sh (o_sh (o_sh (o_sh (o_zz p0)))))), (o_mb (o_sh (o_sh (o_sh (o_sh (o_sh (o_zz p0))))))), (o_mb (o_sh (o_sh (o_sh (o_sh (o_sh (o_sh (o_zz p0)))))))), (o_mb (o_sh (o_sh (o_sh (o_sh (o_sh (o_sh (o_sh (o_zz p0))))))))), (o_mb (o_sh (o_sh (o_sh (o_sh (o_sh (o_sh (o_sh (o_sh (o_zz p0)))))))))), (o_lb (o_sh (o_sh (o_sh (o_sh (o_sh (o_sh (o_sh (o_sh (o_sh (o_zz p0)))))))))))] := by simp [o_enc, hc22, hc22_1, hc22_2, hc22_3, hc22_4, hc22_5, hc22_6, hc22_7, hc22_8]
                    have fV : Arv Z h262 a2 k2 .byte (4096 : Int32) ((ws ++ o_enc 9 (o_zz p0)).map Value.int) (.int (0 : Int32)) := by rw [hE]; exact V262
                    have fL : Fld Z h262 a1 "com/example/estim365/estim365/formats/BytesOut" "length" "I" (.int (Int32.ofNat (ws ++ o_enc 9 (o_zz p0)).length)) := by rw [hE, List.length_append]; exact f266
                    exact o_return X262 hx hret hlk (hb hby d_prog_80_method_6_code_79) (by decide) (by decide) e262 ⟨rfl, N267, K268, f264, f265, fL, fV⟩
theorem d_prog_80_method_3_code_0 : decode prog_80_method_3_code 0 = .ok (.aload_n 0, 1) := by decide +kernel
theorem d_prog_80_method_3_code_1 : decode prog_80_method_3_code 1 = .ok (.getfield 11, 3) := by decide +kernel
theorem d_prog_80_method_3_code_4 : decode prog_80_method_3_code 4 = .ok (.areturn, 1) := by decide +kernel
theorem o_ef5 (m : MethodId) (a1 : Addr) : entryFrame m #[(.ref a1)] 1 = mkF m 0 #[.val (.ref a1)] [] := by first | (simp [entryFrame, mkF, argsToLocals, Value.category]; done) | rfl
set_option maxRecDepth 65536 in
set_option maxHeartbeats 40000000 in
theorem c_array (l : Launch) (Z : State) (a0 : Array Value) (hw : ∀ d ∈ tables_1, d.before a0 Z = true) (a1 : Addr) (a2 : Addr) (h0 : Heap) (pF_a1_bytes : Fld Z h0 a1 "com/example/estim365/estim365/formats/BytesOut" "bytes" "[B" (.ref a2)) :
    Does l Z (⟨"com/example/estim365/estim365/formats/BytesOut", "array", "()[B"⟩ : MethodName) prog_80_method_3_code 1 (some (.array .byte)) [] ({ frames := 0, cells := 0, slots := 0, locals := 0 } : Room) #[(.ref a1)] h0 (Pur h0 (.ref a2)) := by
  refine Does.of (plainFor_of_name o_pn0) ?_
  intro p e s m below meth c T0 hx hby hml hown hnm hret hlk hZ X0 e0
  have hown : s.vm.findClass "com/example/estim365/estim365/formats/BytesOut" = some m.cls := hown
  have hml : c.maxLocals = 1 := hml
  have hret : meth.sig.returnType = some (.array .byte) := hret
  refine o_entry (o_ef5 m a1) ?_
  refine o_aloadN X0 hx (hb hby d_prog_80_method_3_code_0) (v := (.ref a1)) rfl rfl (n := 1) rfl ?_
  refine o_getfield X0 hx hZ hown (host := "") (Or.inl (hw _ (List.mem_of_getElem? (i := 10) rfl))) Via.refl e0 pF_a1_bytes (hb hby d_prog_80_method_3_code_1) (n := 4) rfl ?_
  intro T1 X1 e1
  exact o_areturn X1 hx hret hlk rfl rfl (hb hby d_prog_80_method_3_code_4) (by decide) (by decide) e1 ⟨rfl, rfl, rfl⟩
theorem d_prog_80_method_2_code_0 : decode prog_80_method_2_code 0 = .ok (.aload_n 0, 1) := by decide +kernel
theorem d_prog_80_method_2_code_1 : decode prog_80_method_2_code 1 = .ok (.getfield 15, 3) := by decide +kernel
theorem d_prog_80_method_2_code_4 : decode prog_80_method_2_code 4 = .ok (.ireturn, 1) := by decide +kernel
theorem o_ef6 (m : MethodId) (a1 : Addr) : entryFrame m #[(.ref a1)] 1 = mkF m 0 #[.val (.ref a1)] [] := by first | (simp [entryFrame, mkF, argsToLocals, Value.category]; done) | rfl
set_option maxRecDepth 65536 in
set_option maxHeartbeats 40000000 in
theorem c_length (l : Launch) (Z : State) (a0 : Array Value) (hw : ∀ d ∈ tables_1, d.before a0 Z = true) (a1 : Addr) (w : Int32) (h0 : Heap) (pF_a1_length : Fld Z h0 a1 "com/example/estim365/estim365/formats/BytesOut" "length" "I" (.int w)) :
    Does l Z (⟨"com/example/estim365/estim365/formats/BytesOut", "length", "()I"⟩ : MethodName) prog_80_method_2_code 1 (some .int) [] ({ frames := 0, cells := 0, slots := 0, locals := 0 } : Room) #[(.ref a1)] h0 (Pur h0 (.int w)) := by
  refine Does.of (plainFor_of_name o_pn0) ?_
  intro p e s m below meth c T0 hx hby hml hown hnm hret hlk hZ X0 e0
  have hown : s.vm.findClass "com/example/estim365/estim365/formats/BytesOut" = some m.cls := hown
  have hml : c.maxLocals = 1 := hml
  have hret : meth.sig.returnType = some .int := hret
  refine o_entry (o_ef6 m a1) ?_
  refine o_aloadN X0 hx (hb hby d_prog_80_method_2_code_0) (v := (.ref a1)) rfl rfl (n := 1) rfl ?_
  refine o_getfield X0 hx hZ hown (host := "") (Or.inl (hw _ (List.mem_of_getElem? (i := 21) rfl))) Via.refl e0 pF_a1_length (hb hby d_prog_80_method_2_code_1) (n := 4) rfl ?_
  intro T1 X1 e1
  exact o_ireturn X1 hx hret hlk (hb hby d_prog_80_method_2_code_4) (by decide) (by decide) e1 ⟨rfl, rfl, rfl⟩
theorem d_prog_78_method_1_code_0 : decode prog_78_method_1_code 0 = .ok (.aload_n 0, 1) := by decide +kernel
theorem d_prog_78_method_1_code_1 : decode prog_78_method_1_code 1 = .ok (.invokespecial 1, 3) := by decide +kernel
theorem d_prog_78_method_1_code_4 : decode prog_78_method_1_code 4 = .ok (.aload_n 0, 1) := by decide +kernel
theorem d_prog_78_method_1_code_5 : decode prog_78_method_1_code 5 = .ok (.aload_n 1, 1) := by decide +kernel
theorem d_prog_78_method_1_code_6 : decode prog_78_method_1_code 6 = .ok (.putfield 7, 3) := by decide +kernel
theorem d_prog_78_method_1_code_9 : decode prog_78_method_1_code 9 = .ok (.aload_n 0, 1) := by decide +kernel
theorem d_prog_78_method_1_code_10 : decode prog_78_method_1_code 10 = .ok (.iload_n 2, 1) := by decide +kernel
theorem d_prog_78_method_1_code_11 : decode prog_78_method_1_code 11 = .ok (.putfield 13, 3) := by decide +kernel
theorem d_prog_78_method_1_code_14 : decode prog_78_method_1_code 14 = .ok (.return_, 1) := by decide +kernel
theorem o_ef7 (m : MethodId) (a1 : Addr) (a2 : Addr) (p0 : Int32) : entryFrame m #[(.ref a1), (.ref a2), (.int p0)] 3 = mkF m 0 #[.val (.ref a1), .val (.ref a2), .val (.int p0)] [] := by first | (simp [entryFrame, mkF, argsToLocals, Value.category]; done) | rfl
theorem o_pn1 : plainName "com/example/estim365/estim365/formats/BytesIn" = true := by first | (simp [plainName, overriddenIn]; done) | decide +kernel
set_option maxRecDepth 65536 in
set_option maxHeartbeats 40000000 in
theorem c_initI (l : Launch) (Z : State) (a0 : Array Value) (hw : ∀ d ∈ tables_1, d.before a0 Z = true) (a1 : Addr) (a2 : Addr) (p0 : Int32) (h0 : Heap) (n0 : Nat) (Z0 : n0 ≤ h0.size) (pg_a1 : n0 ≤ a1) (pE_a1 : Exa Z h0 a1 "com/example/estim365/estim365/formats/BytesIn") (pF_a1_bytes : Fld Z h0 a1 "com/example/estim365/estim365/formats/BytesIn" "bytes" "[B" .null) (pF_a1_position : Fld Z h0 a1 "com/example/estim365/estim365/formats/BytesIn" "position" "I" (.int (0 : Int32))) :
    Does l Z (⟨"com/example/estim365/estim365/formats/BytesIn", "<init>", "([BI)V"⟩ : MethodName) prog_78_method_1_code 3 none [] ({ frames := 1, cells := 0, slots := 0, locals := 12 } : Room) #[(.ref a1), (.ref a2), (.int p0)] h0 (fun v h L => v = none ∧ Fr n0 L ∧ Keep h0 h [a1] ∧ Exa Z h a1 "com/example/estim365/estim365/formats/BytesIn" ∧ Fld Z h a1 "com/example/estim365/estim365/formats/BytesIn" "bytes" "[B" (.ref a2) ∧ Fld Z h a1 "com/example/estim365/estim365/formats/BytesIn" "position" "I" (.int p0)) := by
  refine Does.of (plainFor_of_name o_pn1) ?_
  intro p e s m below meth c T0 hx hby hml hown hnm hret hlk hZ X0 e0
  have hown : s.vm.findClass "com/example/estim365/estim365/formats/BytesIn" = some m.cls := hown
  have hml : c.maxLocals = 3 := hml
  have hret : meth.sig.returnType = none := hret
  refine o_entry (o_ef7 m a1 a2 p0) ?_
  have N0 := Fr.nil n0
  refine o_aloadN X0 hx (hb hby d_prog_78_method_1_code_0) (v := (.ref a1)) rfl rfl (n := 1) rfl ?_
  refine o_initO X0 hx hZ hown (hw _ (List.mem_of_getElem? (i := 44) rfl)) (hw _ (List.mem_of_getElem? (i := 7) rfl)) (hw _ (List.mem_of_getElem? (i := 8) rfl)) e0 (by rw [hml]; rfl) (hb hby d_prog_78_method_1_code_1) (by decide) 0 (Nat.le_of_eq rfl) (by decide) (n := 4) rfl ?_
  intro T1 X1 e1
  refine o_aloadN X1 hx (hb hby d_prog_78_method_1_code_4) (v := (.ref a1)) rfl rfl (n := 5) rfl ?_
  refine o_aloadN X1 hx (hb hby d_prog_78_method_1_code_5) (v := (.ref a2)) rfl rfl (n := 6) rfl ?_
  refine o_putfield X1 hx hZ hown (host := "") (Or.inl (hw _ (List.mem_of_getElem? (i := 45) rfl))) Via.refl e1 pF_a1_bytes pE_a1 (Or.inr ⟨(hw _ (List.mem_of_getElem? (i := 46) rfl)), rfl, hnm⟩) (hw _ (List.mem_of_getElem? (i := 39) rfl)) (ty := (.array .byte)) (by decide) rfl rfl (hb hby d_prog_78_method_1_code_6) (n := 9) rfl ?_
  intro T2 h2 X2 e2 W2 F2 E_2
  have f3 := pF_a1_position.other W2 (Or.inr (slot_ne (Or.inl (hw _ (List.mem_of_getElem? (i := 48) rfl))) (Or.inr (hw _ (List.mem_of_getElem? (i := 46) rfl))) (by decide) (t := .int) (t' := (.array .byte)) (by decide) (by decide)))
  have zz2 : n0 ≤ h2.size := Nat.le_trans Z0 (Nat.le_of_eq W2.size.symm)
  have N4 := Fr.snoc X2 N0 pg_a1
  have K5 : Keep h0 h2 [a1] := (Keep.refl h0 [a1]).wr W2 (Or.inl (List.mem_of_getElem? (i := 0) rfl))
  refine o_aloadN X2 hx (hb hby d_prog_78_method_1_code_9) (v := (.ref a1)) rfl rfl (n := 10) rfl ?_
  refine o_iloadN X2 hx (hb hby d_prog_78_method_1_code_10) (v := p0) rfl (n := 11) rfl ?_
  refine o_putfield X2 hx hZ hown (host := "") (Or.inl (hw _ (List.mem_of_getElem? (i := 47) rfl))) Via.refl e2 f3 E_2 (Or.inl (hw _ (List.mem_of_getElem? (i := 48) rfl))) (hw _ (List.mem_of_getElem? (i := 39) rfl)) (ty := .int) (by decide) rfl rfl (hb hby d_prog_78_method_1_code_11) (n := 14) rfl ?_
  intro T6 h6 X6 e6 W6 F6 E_6
  have f7 := F2.other W6 (Or.inr (slot_ne (Or.inr (hw _ (List.mem_of_getElem? (i := 46) rfl))) (Or.inl (hw _ (List.mem_of_getElem? (i := 48) rfl))) (by decide) (t := (.array .byte)) (t' := .int) (by decide) (by decide)))
  have zz6 : n0 ≤ h6.size := Nat.le_trans zz2 (Nat.le_of_eq W6.size.symm)
  have N8 := Fr.snoc X6 N4 pg_a1
  have K9 : Keep h0 h6 [a1] := K5.wr W6 (Or.inl (List.mem_of_getElem? (i := 0) rfl))
  exact o_return X6 hx hret hlk (hb hby d_prog_78_method_1_code_14) (by decide) (by decide) e6 ⟨rfl, N8, K9, E_6, f7, F6⟩
theorem d_prog_78_method_2_code_0 : decode prog_78_method_2_code 0 = .ok (.aload_n 0, 1) := by decide +kernel
theorem d_prog_78_method_2_code_1 : decode prog_78_method_2_code 1 = .ok (.getfield 13, 3) := by decide +kernel
theorem d_prog_78_method_2_code_4 : decode prog_78_method_2_code 4 = .ok (.ireturn, 1) := by decide +kernel
theorem o_ef8 (m : MethodId) (a1 : Addr) : entryFrame m #[(.ref a1)] 1 = mkF m 0 #[.val (.ref a1)] [] := by first | (simp [entryFrame, mkF, argsToLocals, Value.category]; done) | rfl
set_option maxRecDepth 65536 in
set_option maxHeartbeats 40000000 in
theorem c_pos (l : Launch) (Z : State) (a0 : Array Value) (hw : ∀ d ∈ tables_1, d.before a0 Z = true) (a1 : Addr) (w : Int32) (h0 : Heap) (pF_a1_position : Fld Z h0 a1 "com/example/estim365/estim365/formats/BytesIn" "position" "I" (.int w)) :
    Does l Z (⟨"com/example/estim365/estim365/formats/BytesIn", "position", "()I"⟩ : MethodName) prog_78_method_2_code 1 (some .int) [] ({ frames := 0, cells := 0, slots := 0, locals := 0 } : Room) #[(.ref a1)] h0 (Pur h0 (.int w)) := by
  refine Does.of (plainFor_of_name o_pn1) ?_
  intro p e s m below meth c T0 hx hby hml hown hnm hret hlk hZ X0 e0
  have hown : s.vm.findClass "com/example/estim365/estim365/formats/BytesIn" = some m.cls := hown
  have hml : c.maxLocals = 1 := hml
  have hret : meth.sig.returnType = some .int := hret
  refine o_entry (o_ef8 m a1) ?_
  refine o_aloadN X0 hx (hb hby d_prog_78_method_2_code_0) (v := (.ref a1)) rfl rfl (n := 1) rfl ?_
  refine o_getfield X0 hx hZ hown (host := "") (Or.inl (hw _ (List.mem_of_getElem? (i := 47) rfl))) Via.refl e0 pF_a1_position (hb hby d_prog_78_method_2_code_1) (n := 4) rfl ?_
  intro T1 X1 e1
  exact o_ireturn X1 hx hret hlk (hb hby d_prog_78_method_2_code_4) (by decide) (by decide) e1 ⟨rfl, rfl, rfl⟩
theorem d_prog_78_method_4_code_0 : decode prog_78_method_4_code 0 = .ok (.lconst 0, 1) := by decide +kernel
theorem d_prog_78_method_4_code_1 : decode prog_78_method_4_code 1 = .ok (.lstore_n 1, 1) := by decide +kernel
theorem d_prog_78_method_4_code_2 : decode prog_78_method_4_code 2 = .ok (.iconst 0, 1) := by decide +kernel
theorem d_prog_78_method_4_code_3 : decode prog_78_method_4_code 3 = .ok (.istore_n 3, 1) := by decide +kernel
theorem d_prog_78_method_4_code_4 : decode prog_78_method_4_code 4 = .ok (.aload_n 0, 1) := by decide +kernel
theorem d_prog_78_method_4_code_5 : decode prog_78_method_4_code 5 = .ok (.getfield 7, 3) := by decide +kernel
theorem d_prog_78_method_4_code_8 : decode prog_78_method_4_code 8 = .ok (.aload_n 0, 1) := by decide +kernel
theorem d_prog_78_method_4_code_9 : decode prog_78_method_4_code 9 = .ok (.dup, 1) := by decide +kernel
theorem d_prog_78_method_4_code_10 : decode prog_78_method_4_code 10 = .ok (.getfield 13, 3) := by decide +kernel
theorem d_prog_78_method_4_code_13 : decode prog_78_method_4_code 13 = .ok (.dup_x1, 1) := by decide +kernel
theorem d_prog_78_method_4_code_14 : decode prog_78_method_4_code 14 = .ok (.iconst 1, 1) := by decide +kernel
theorem d_prog_78_method_4_code_15 : decode prog_78_method_4_code 15 = .ok (.iadd, 1) := by decide +kernel
theorem d_prog_78_method_4_code_16 : decode prog_78_method_4_code 16 = .ok (.putfield 13, 3) := by decide +kernel
theorem d_prog_78_method_4_code_19 : decode prog_78_method_4_code 19 = .ok (.baload, 1) := by decide +kernel
theorem d_prog_78_method_4_code_20 : decode prog_78_method_4_code 20 = .ok (.istore 4, 2) := by decide +kernel
theorem d_prog_78_method_4_code_22 : decode prog_78_method_4_code 22 = .ok (.lload_n 1, 1) := by decide +kernel
theorem d_prog_78_method_4_code_23 : decode prog_78_method_4_code 23 = .ok (.iload 4, 2) := by decide +kernel
theorem d_prog_78_method_4_code_25 : decode prog_78_method_4_code 25 = .ok (.i2l, 1) := by decide +kernel
theorem d_prog_78_method_4_code_26 : decode prog_78_method_4_code 26 = .ok (.ldc2_w 19, 3) := by decide +kernel
theorem d_prog_78_method_4_code_29 : decode prog_78_method_4_code 29 = .ok (.land, 1) := by decide +kernel
theorem d_prog_78_method_4_code_30 : decode prog_78_method_4_code 30 = .ok (.iload_n 3, 1) := by decide +kernel
theorem d_prog_78_method_4_code_31 : decode prog_78_method_4_code 31 = .ok (.lshl, 1) := by decide +kernel
theorem d_prog_78_method_4_code_32 : decode prog_78_method_4_code 32 = .ok (.lor, 1) := by decide +kernel
theorem d_prog_78_method_4_code_33 : decode prog_78_method_4_code 33 = .ok (.lstore_n 1, 1) := by decide +kernel
theorem d_prog_78_method_4_code_34 : decode prog_78_method_4_code 34 = .ok (.iinc 3 7, 3) := by decide +kernel
theorem d_prog_78_method_4_code_37 : decode prog_78_method_4_code 37 = .ok (.iload 4, 2) := by decide +kernel
theorem d_prog_78_method_4_code_39 : decode prog_78_method_4_code 39 = .ok (.sipush 128, 3) := by decide +kernel
theorem d_prog_78_method_4_code_42 : decode prog_78_method_4_code 42 = .ok (.iand, 1) := by decide +kernel
theorem d_prog_78_method_4_code_43 : decode prog_78_method_4_code 43 = .ok (.ifCond .ne (-39), 3) := by decide +kernel
theorem d_prog_78_method_4_code_46 : decode prog_78_method_4_code 46 = .ok (.lload_n 1, 1) := by decide +kernel
theorem d_prog_78_method_4_code_47 : decode prog_78_method_4_code 47 = .ok (.iconst 1, 1) := by decide +kernel
theorem d_prog_78_method_4_code_48 : decode prog_78_method_4_code 48 = .ok (.lushr, 1) := by decide +kernel
theorem d_prog_78_method_4_code_49 : decode prog_78_method_4_code 49 = .ok (.lload_n 1, 1) := by decide +kernel
theorem d_prog_78_method_4_code_50 : decode prog_78_method_4_code 50 = .ok (.lconst 1, 1) := by decide +kernel
theorem d_prog_78_method_4_code_51 : decode prog_78_method_4_code 51 = .ok (.land, 1) := by decide +kernel
theorem d_prog_78_method_4_code_52 : decode prog_78_method_4_code 52 = .ok (.lneg, 1) := by decide +kernel
theorem d_prog_78_method_4_code_53 : decode prog_78_method_4_code 53 = .ok (.lxor, 1) := by decide +kernel
theorem d_prog_78_method_4_code_54 : decode prog_78_method_4_code 54 = .ok (.lreturn, 1) := by decide +kernel
theorem o_ef9 (m : MethodId) (a1 : Addr) : entryFrame m #[(.ref a1)] 5 = mkF m 0 #[.val (.ref a1), .unset, .unset, .unset, .unset] [] := by first | (simp [entryFrame, mkF, argsToLocals, Value.category]; done) | rfl
set_option maxRecDepth 65536 in
set_option maxHeartbeats 40000000 in
theorem c_read (l : Launch) (Z : State) (a0 : Array Value) (hw : ∀ d ∈ tables_1, d.before a0 Z = true) (a1 : Addr) (a2 : Addr) (k2 : ClassId) (p0 : Int64) (pre : List Int32) (post : List Int32) (h0 : Heap) (n0 : Nat) (Z0 : n0 ≤ h0.size) (pg_a1 : n0 ≤ a1) (pE_a1 : Exa Z h0 a1 "com/example/estim365/estim365/formats/BytesIn") (pF_a1_bytes : Fld Z h0 a1 "com/example/estim365/estim365/formats/BytesIn" "bytes" "[B" (.ref a2)) (pF_a1_position : Fld Z h0 a1 "com/example/estim365/estim365/formats/BytesIn" "position" "I" (.int (Int32.ofNat pre.length))) (pV_a2 : Arv Z h0 a2 k2 .byte (4096 : Int32) ((pre ++ (o_enc 9 (o_zz p0) ++ post)).map Value.int) (.int (0 : Int32))) (pne_a2_a1 : a2 ≠ a1) (hn : pre.length ≤ 10) :
    Does l Z (⟨"com/example/estim365/estim365/formats/BytesIn", "readNumber", "()J"⟩ : MethodName) prog_78_method_4_code 5 (some .long) [] ({ frames := 0, cells := 0, slots := 0, locals := 0 } : Room) #[(.ref a1)] h0 (fun v h L => v = some (.long p0) ∧ Fr n0 L ∧ Keep h0 h [a1] ∧ Exa Z h a1 "com/example/estim365/estim365/formats/BytesIn" ∧ Fld Z h a1 "com/example/estim365/estim365/formats/BytesIn" "bytes" "[B" (.ref a2) ∧ Fld Z h a1 "com/example/estim365/estim365/formats/BytesIn" "position" "I" (.int (Int32.ofNat (pre.length + (o_enc 9 (o_zz p0)).length)))) := by
  refine Does.of (plainFor_of_name o_pn1) ?_
  intro p e s m below meth c T0 hx hby hml hown hnm hret hlk hZ X0 e0
  have hown : s.vm.findClass "com/example/estim365/estim365/formats/BytesIn" = some m.cls := hown
  have hml : c.maxLocals = 5 := hml
  have hret : meth.sig.returnType = some .long := hret
  refine o_entry (o_ef9 m a1) ?_
  have N0 := Fr.nil n0
  have pF_a1_position : Fld Z h0 a1 "com/example/estim365/estim365/formats/BytesIn" "position" "I" (.int (Int32.ofNat (pre.length + 0))) := pF_a1_position
  refine o_lconst X0 hx (hb hby d_prog_78_method_4_code_0) (v := (0 : Int64)) rfl (n := 1) rfl ?_
  refine o_lstoreN X0 hx (hb hby d_prog_78_method_4_code_1) (Ls' := #[.val (.ref a1), .val (.long (0 : Int64)), .second, .unset, .unset]) rfl (n := 2) rfl ?_
  refine o_iconst X0 hx (hb hby d_prog_78_method_4_code_2) (v := (0 : Int32)) rfl (n := 3) rfl ?_
  refine o_istoreN X0 hx (hb hby d_prog_78_method_4_code_3) (Ls' := #[.val (.ref a1), .val (.long (0 : Int64)), .second, .val (.int (0 : Int32)), .unset]) rfl (n := 4) rfl ?_
  by_cases hz0 : (o_zz p0) &&& (-128 : Int64) = 0
  · have hE : o_enc 9 (o_zz p0) = [(o_lb (o_zz p0))] := by simp [o_enc, hz0]
    have hn0 : o_enc 9 (o_zz p0) = [] ++ (o_lb (o_zz p0)) :: [] := by simp [o_enc, hz0]
    refine o_aloadN X0 hx (hb hby d_prog_78_method_4_code_4) (v := (.ref a1)) rfl rfl (n := 5) rfl ?_
    refine o_getfield X0 hx hZ hown (host := "") (Or.inl (hw _ (List.mem_of_getElem? (i := 45) rfl))) Via.refl e0 pF_a1_bytes (hb hby d_prog_78_method_4_code_5) (n := 8) rfl ?_
    intro T1 X1 e1
    refine o_aloadN X1 hx (hb hby d_prog_78_method_4_code_8) (v := (.ref a1)) rfl rfl (n := 9) rfl ?_
    refine o_dup X1 hx (hb hby d_prog_78_method_4_code_9) rfl (n := 10) rfl ?_
    refine o_getfield X1 hx hZ hown (host := "") (Or.inl (hw _ (List.mem_of_getElem? (i := 47) rfl))) Via.refl e1 pF_a1_position (hb hby d_prog_78_method_4_code_10) (n := 13) rfl ?_
    intro T2 X2 e2
    refine o_dup_x1 X2 hx (hb hby d_prog_78_method_4_code_13) rfl rfl (n := 14) rfl ?_
    refine o_iconst X2 hx (hb hby d_prog_78_method_4_code_14) (v := (1 : Int32)) rfl (n := 15) rfl ?_
    refine o_iadd X2 hx (hb hby d_prog_78_method_4_code_15) (v := (Int32.ofNat (pre.length + 1))) (o_suc _) (n := 16) rfl ?_
    refine o_putfield X2 hx hZ hown (host := "") (Or.inl (hw _ (List.mem_of_getElem? (i := 47) rfl))) Via.refl e2 pF_a1_position pE_a1 (Or.inl (hw _ (List.mem_of_getElem? (i := 48) rfl))) (hw _ (List.mem_of_getElem? (i := 39) rfl)) (ty := .int) (by decide) rfl rfl (hb hby d_prog_78_method_4_code_16) (n := 19) rfl ?_
    intro T3 h3 X3 e3 W3 F3 E_3
    have f4 := pF_a1_bytes.other W3 (Or.inr (slot_ne (Or.inr (hw _ (List.mem_of_getElem? (i := 46) rfl))) (Or.inl (hw _ (List.mem_of_getElem? (i := 48) rfl))) (by decide) (t := (.array .byte)) (t' := .int) (by decide) (by decide)))
    have f5 := pV_a2.other W3 pne_a2_a1
    have zz3 : n0 ≤ h3.size := Nat.le_trans Z0 (Nat.le_of_eq W3.size.symm)
    have N6 := Fr.snoc X3 N0 pg_a1
    have K7 : Keep h0 h3 [a1] := (Keep.refl h0 [a1]).wr W3 (Or.inl (List.mem_of_getElem? (i := 0) rfl))
    refine o_baload X3 hx hZ e3 f5 ((pre.length + 0)) (o_tn (by omega)) (o_rg (by omega)) (v := (.int (o_lb (o_zz p0)))) (o_nth pre post [] _ _ _ 0 rfl hn0) (hb hby d_prog_78_method_4_code_19) (n := 20) rfl ?_
    refine o_istore X3 hx (hb hby d_prog_78_method_4_code_20) (Ls' := #[.val (.ref a1), .val (.long (0 : Int64)), .second, .val (.int (0 : Int32)), .val (.int (o_lb (o_zz p0)))]) rfl (n := 22) rfl ?_
    refine o_lloadN X3 hx (hb hby d_prog_78_method_4_code_22) (v := (0 : Int64)) rfl (n := 23) rfl ?_
    refine o_iload X3 hx (hb hby d_prog_78_method_4_code_23) (v := (o_lb (o_zz p0))) rfl (n := 25) rfl ?_
    refine o_i2l X3 hx (hb hby d_prog_78_method_4_code_25) (v := (o_lb (o_zz p0)).toInt64) rfl (n := 26) rfl ?_
    refine o_ldc2_w X3 hx hZ (v := (127 : Int64)) hown (hw _ (List.mem_of_getElem? (i := 54) rfl)) (hb hby d_prog_78_method_4_code_26) (n := 29) rfl ?_
    refine o_land X3 hx (hb hby d_prog_78_method_4_code_29) (v := ((o_lb (o_zz p0)).toInt64 &&& (127 : Int64))) rfl (n := 30) rfl ?_
    refine o_iloadN X3 hx (hb hby d_prog_78_method_4_code_30) (v := (0 : Int32)) rfl (n := 31) rfl ?_
    refine o_lshl X3 hx (hb hby d_prog_78_method_4_code_31) (v := (((o_lb (o_zz p0)).toInt64 &&& (127 : Int64)) <<< (0 : Int64))) (congrArg (fun q : Int64 => ((o_lb (o_zz p0)).toInt64 &&& (127 : Int64)) <<< q) (show ((0 : Int32) &&& 0x3f).toInt64 = 0 by decide)) (n := 32) rfl ?_
    refine o_lor X3 hx (hb hby d_prog_78_method_4_code_32) (v := ((0 : Int64) ||| (((o_lb (o_zz p0)).toInt64 &&& (127 : Int64)) <<< (0 : Int64)))) rfl (n := 33) rfl ?_
    refine o_lstoreN X3 hx (hb hby d_prog_78_method_4_code_33) (Ls' := #[.val (.ref a1), .val (.long ((0 : Int64) ||| (((o_lb (o_zz p0)).toInt64 &&& (127 : Int64)) <<< (0 : Int64)))), .second, .val (.int (0 : Int32)), .val (.int (o_lb (o_zz p0)))]) rfl (n := 34) rfl ?_
    generalize h_r : ((0 : Int64) ||| (((o_lb (o_zz p0)).toInt64 &&& (127 : Int64)) <<< (0 : Int64))) = r
    have hf : r = (o_zz p0) := o_fin_0 (o_zz p0) (o_r0 _) hz0 h_r
    refine o_iinc X3 hx (hb hby d_prog_78_method_4_code_34) (w := (7 : Int32)) rfl (by decide) (Ls' := #[.val (.ref a1), .val (.long r), .second, .val (.int (7 : Int32)), .val (.int (o_lb (o_zz p0)))]) rfl (n := 37) rfl ?_
    refine o_iload X3 hx (hb hby d_prog_78_method_4_code_37) (v := (o_lb (o_zz p0))) rfl (n := 39) rfl ?_
    refine o_sipush X3 hx (hb hby d_prog_78_method_4_code_39) (v := (128 : Int32)) rfl (n := 42) rfl ?_
    refine o_iand X3 hx (hb hby d_prog_78_method_4_code_42) (v := ((o_lb (o_zz p0)) &&& (128 : Int32))) rfl (n := 43) rfl ?_
    refine o_ifN X3 hx (hb hby d_prog_78_method_4_code_43) (XT.i0_ne_f (o_lb128 hz0)) (n := 46) rfl ?_
    refine o_lloadN X3 hx (hb hby d_prog_78_method_4_code_46) (v := r) rfl (n := 47) rfl ?_
    refine o_iconst X3 hx (hb hby d_prog_78_method_4_code_47) (v := (1 : Int32)) rfl (n := 48) rfl ?_
    refine o_lushr X3 hx (hb hby d_prog_78_method_4_code_48) (v := (r.toUInt64 >>> (1 : UInt64)).toInt64) (congrArg (fun q : UInt64 => (r.toUInt64 >>> q).toInt64) (show ((1 : Int32) &&& 0x3f).toInt64.toUInt64 = 1 by decide)) (n := 49) rfl ?_
    refine o_lloadN X3 hx (hb hby d_prog_78_method_4_code_49) (v := r) rfl (n := 50) rfl ?_
    refine o_lconst X3 hx (hb hby d_prog_78_method_4_code_50) (v := (1 : Int64)) rfl (n := 51) rfl ?_
    refine o_land X3 hx (hb hby d_prog_78_method_4_code_51) (v := (r &&& (1 : Int64))) rfl (n := 52) rfl ?_
    refine o_lneg X3 hx (hb hby d_prog_78_method_4_code_52) (v := (-(r &&& (1 : Int64)))) rfl (n := 53) rfl ?_
    refine o_lxor X3 hx (hb hby d_prog_78_method_4_code_53) (v := (o_un r)) rfl (n := 54) rfl ?_
    have fP : Fld Z h3 a1 "com/example/estim365/estim365/formats/BytesIn" "position" "I" (.int (Int32.ofNat (pre.length + (o_enc 9 (o_zz p0)).length))) := by rw [hE]; exact F3
    exact o_lreturn X3 hx hret hlk (hb hby d_prog_78_method_4_code_54) (by decide) (by decide) e3 ⟨(by rw [hf, o_unzz]), N6, K7, E_3, f4, fP⟩
  · have hn0 : o_enc 9 (o_zz p0) = [] ++ (o_mb (o_zz p0)) :: o_enc 8 (o_sh (o_zz p0)) := by simp [o_enc, hz0]
    refine o_aloadN X0 hx (hb hby d_prog_78_method_4_code_4) (v := (.ref a1)) rfl rfl (n := 5) rfl ?_
    refine o_getfield X0 hx hZ hown (host := "") (Or.inl (hw _ (List.mem_of_getElem? (i := 45) rfl))) Via.refl e0 pF_a1_bytes (hb hby d_prog_78_method_4_code_5) (n := 8) rfl ?_
    intro T8 X8 e8
    refine o_aloadN X8 hx (hb hby d_prog_78_method_4_code_8) (v := (.ref a1)) rfl rfl (n := 9) rfl ?_
    refine o_dup X8 hx (hb hby d_prog_78_method_4_code_9) rfl (n := 10) rfl ?_
    refine o_getfield X8 hx hZ hown (host := "") (Or.inl (hw _ (List.mem_of_getElem? (i := 47) rfl))) Via.refl e8 pF_a1_position (hb hby d_prog_78_method_4_code_10) (n := 13) rfl ?_
    intro T9 X9 e9
    refine o_dup_x1 X9 hx (hb hby d_prog_78_method_4_code_13) rfl rfl (n := 14) rfl ?_
    refine o_iconst X9 hx (hb hby d_prog_78_method_4_code_14) (v := (1 : Int32)) rfl (n := 15) rfl ?_
    refine o_iadd X9 hx (hb hby d_prog_78_method_4_code_15) (v := (Int32.ofNat (pre.length + 1))) (o_suc _) (n := 16) rfl ?_
    refine o_putfield X9 hx hZ hown (host := "") (Or.inl (hw _ (List.mem_of_getElem? (i := 47) rfl))) Via.refl e9 pF_a1_position pE_a1 (Or.inl (hw _ (List.mem_of_getElem? (i := 48) rfl))) (hw _ (List.mem_of_getElem? (i := 39) rfl)) (ty := .int) (by decide) rfl rfl (hb hby d_prog_78_method_4_code_16) (n := 19) rfl ?_
    intro T10 h10 X10 e10 W10 F10 E_10
    have f11 := pF_a1_bytes.other W10 (Or.inr (slot_ne (Or.inr (hw _ (List.mem_of_getElem? (i := 46) rfl))) (Or.inl (hw _ (List.mem_of_getElem? (i := 48) rfl))) (by decide) (t := (.array .byte)) (t' := .int) (by decide) (by decide)))
    have f12 := pV_a2.other W10 pne_a2_a1
    have zz10 : n0 ≤ h10.size := Nat.le_trans Z0 (Nat.le_of_eq W10.size.symm)
    have N13 := Fr.snoc X10 N0 pg_a1
    have K14 : Keep h0 h10 [a1] := (Keep.refl h0 [a1]).wr W10 (Or.inl (List.mem_of_getElem? (i := 0) rfl))
    refine o_baload X10 hx hZ e10 f12 ((pre.length + 0)) (o_tn (by omega)) (o_rg (by omega)) (v := (.int (o_mb (o_zz p0)))) (o_nth pre post [] _ _ _ 0 rfl hn0) (hb hby d_prog_78_method_4_code_19) (n := 20) rfl ?_
    refine o_istore X10 hx (hb hby d_prog_78_method_4_code_20) (Ls' := #[.val (.ref a1), .val (.long (0 : Int64)), .second, .val (.int (0 : Int32)), .val (.int (o_mb (o_zz p0)))]) rfl (n := 22) rfl ?_
    refine o_lloadN X10 hx (hb hby d_prog_78_method_4_code_22) (v := (0 : Int64)) rfl (n := 23) rfl ?_
    refine o_iload X10 hx (hb hby d_prog_78_method_4_code_23) (v := (o_mb (o_zz p0))) rfl (n := 25) rfl ?_
    refine o_i2l X10 hx (hb hby d_prog_78_method_4_code_25) (v := (o_mb (o_zz p0)).toInt64) rfl (n := 26) rfl ?_
    refine o_ldc2_w X10 hx hZ (v := (127 : Int64)) hown (hw _ (List.mem_of_getElem? (i := 54) rfl)) (hb hby d_prog_78_method_4_code_26) (n := 29) rfl ?_
    refine o_land X10 hx (hb hby d_prog_78_method_4_code_29) (v := ((o_mb (o_zz p0)).toInt64 &&& (127 : Int64))) rfl (n := 30) rfl ?_
    refine o_iloadN X10 hx (hb hby d_prog_78_method_4_code_30) (v := (0 : Int32)) rfl (n := 31) rfl ?_
    refine o_lshl X10 hx (hb hby d_prog_78_method_4_code_31) (v := (((o_mb (o_zz p0)).toInt64 &&& (127 : Int64)) <<< (0 : Int64))) (congrArg (fun q : Int64 => ((o_mb (o_zz p0)).toInt64 &&& (127 : Int64)) <<< q) (show ((0 : Int32) &&& 0x3f).toInt64 = 0 by decide)) (n := 32) rfl ?_
    refine o_lor X10 hx (hb hby d_prog_78_method_4_code_32) (v := ((0 : Int64) ||| (((o_mb (o_zz p0)).toInt64 &&& (127 : Int64)) <<< (0 : Int64)))) rfl (n := 33) rfl ?_
    refine o_lstoreN X10 hx (hb hby d_prog_78_method_4_code_33) (Ls' := #[.val (.ref a1), .val (.long ((0 : Int64) ||| (((o_mb (o_zz p0)).toInt64 &&& (127 : Int64)) <<< (0 : Int64)))), .second, .val (.int (0 : Int32)), .val (.int (o_mb (o_zz p0)))]) rfl (n := 34) rfl ?_
    generalize h_r : ((0 : Int64) ||| (((o_mb (o_zz p0)).toInt64 &&& (127 : Int64)) <<< (0 : Int64))) = r
    have hr1 := o_acc_0 (o_zz p0) (o_r0 _) h_r
    refine o_iinc X10 hx (hb hby d_prog_78_method_4_code_34) (w := (7 : Int32)) rfl (by decide) (Ls' := #[.val (.ref a1), .val (.long r), .second, .val (.int (7 : Int32)), .val (.int (o_mb (o_zz p0)))]) rfl (n := 37) rfl ?_
    refine o_iload X10 hx (hb hby d_prog_78_method_4_code_37) (v := (o_mb (o_zz p0))) rfl (n := 39) rfl ?_
    refine o_sipush X10 hx (hb hby d_prog_78_method_4_code_39) (v := (128 : Int32)) rfl (n := 42) rfl ?_
    refine o_iand X10 hx (hb hby d_prog_78_method_4_code_42) (v := ((o_mb (o_zz p0)) &&& (128 : Int32))) rfl (n := 43) rfl ?_
    refine o_ifY X10 hx (hb hby d_prog_78_method_4_code_43) (XT.i0_ne_t (o_mb128 _)) (by decide) (n := 4) (by decide) ?_
    by_cases hz1 : (o_sh (o_zz p0)) &&& (-128 : Int64) = 0
    · have hE : o_enc 9 (o_zz p0) = [(o_mb (o_zz p0)), (o_lb (o_sh (o_zz p0)))] := by simp [o_enc, hz0, hz1]
      have hn1 : o_enc 9 (o_zz p0) = [(o_mb (o_zz p0))] ++ (o_lb (o_sh (o_zz p0))) :: [] := by simp [o_enc, hz0, hz1]
      refine o_aloadN X10 hx (hb hby d_prog_78_method_4_code_4) (v := (.ref a1)) rfl rfl (n := 5) rfl ?_
      refine o_getfield X10 hx hZ hown (host := "") (Or.inl (hw _ (List.mem_of_getElem? (i := 45) rfl))) Via.refl e10 f11 (hb hby d_prog_78_method_4_code_5) (n := 8) rfl ?_
      intro T15 X15 e15
      refine o_aloadN X15 hx (hb hby d_prog_78_method_4_code_8) (v := (.ref a1)) rfl rfl (n := 9) rfl ?_
      refine o_dup X15 hx (hb hby d_prog_78_method_4_code_9) rfl (n := 10) rfl ?_
      refine o_getfield X15 hx hZ hown (host := "") (Or.inl (hw _ (List.mem_of_getElem? (i := 47) rfl))) Via.refl e15 F10 (hb hby d_prog_78_method_4_code_10) (n := 13) rfl ?_
      intro T16 X16 e16
      refine o_dup_x1 X16 hx (hb hby d_prog_78_method_4_code_13) rfl rfl (n := 14) rfl ?_
      refine o_iconst X16 hx (hb hby d_prog_78_method_4_code_14) (v := (1 : Int32)) rfl (n := 15) rfl ?_
      refine o_iadd X16 hx (hb hby d_prog_78_method_4_code_15) (v := (Int32.ofNat (pre.length + 2))) (o_suc _) (n := 16) rfl ?_
      refine o_putfield X16 hx hZ hown (host := "") (Or.inl (hw _ (List.mem_of_getElem? (i := 47) rfl))) Via.refl e16 F10 E_10 (Or.inl (hw _ (List.mem_of_getElem? (i := 48) rfl))) (hw _ (List.mem_of_getElem? (i := 39) rfl)) (ty := .int) (by decide) rfl rfl (hb hby d_prog_78_method_4_code_16) (n := 19) rfl ?_
      intro T17 h17 X17 e17 W17 F17 E_17
      have f18 := f11.other W17 (Or.inr (slot_ne (Or.inr (hw _ (List.mem_of_getElem? (i := 46) rfl))) (Or.inl (hw _ (List.mem_of_getElem? (i := 48) rfl))) (by decide) (t := (.array .byte)) (t' := .int) (by decide) (by decide)))
      have f19 := f12.other W17 pne_a2_a1
      have zz17 : n0 ≤ h17.size := Nat.le_trans zz10 (Nat.le_of_eq W17.size.symm)
      have N20 := Fr.snoc X17 N13 pg_a1
      have K21 : Keep h0 h17 [a1] := K14.wr W17 (Or.inl (List.mem_of_getElem? (i := 0) rfl))
      refine o_baload X17 hx hZ e17 f19 ((pre.length + 1)) (o_tn (by omega)) (o_rg (by omega)) (v := (.int (o_lb (o_sh (o_zz p0))))) (o_nth pre post [(o_mb (o_zz p0))] _ _ _ 1 rfl hn1) (hb hby d_prog_78_method_4_code_19) (n := 20) rfl ?_
      refine o_istore X17 hx (hb hby d_prog_78_method_4_code_20) (Ls' := #[.val (.ref a1), .val (.long r), .second, .val (.int (7 : Int32)), .val (.int (o_lb (o_sh (o_zz p0))))]) rfl (n := 22) rfl ?_
      refine o_lloadN X17 hx (hb hby d_prog_78_method_4_code_22) (v := r) rfl (n := 23) rfl ?_
      refine o_iload X17 hx (hb hby d_prog_78_method_4_code_23) (v := (o_lb (o_sh (o_zz p0)))) rfl (n := 25) rfl ?_
      refine o_i2l X17 hx (hb hby d_prog_78_method_4_code_25) (v := (o_lb (o_sh (o_zz p0))).toInt64) rfl (n := 26) rfl ?_
      refine o_ldc2_w X17 hx hZ (v := (127 : Int64)) hown (hw _ (List.mem_of_getElem? (i := 54) rfl)) (hb hby d_prog_78_method_4_code_26) (n := 29) rfl ?_
      refine o_land X17 hx (hb hby d_prog_78_method_4_code_29) (v := ((o_lb (o_sh (o_zz p0))).toInt64 &&& (127 : Int64))) rfl (n := 30) rfl ?_
      refine o_iloadN X17 hx (hb hby d_prog_78_method_4_code_30) (v := (7 : Int32)) rfl (n := 31) rfl ?_
      refine o_lshl X17 hx (hb hby d_prog_78_method_4_code_31) (v := (((o_lb (o_sh (o_zz p0))).toInt64 &&& (127 : Int64)) <<< (7 : Int64))) (congrArg (fun q : Int64 => ((o_lb (o_sh (o_zz p0))).toInt64 &&& (127 : Int64)) <<< q) (show ((7 : Int32) &&& 0x3f).toInt64 = 7 by decide)) (n := 32) rfl ?_
      refine o_lor X17 hx (hb hby d_prog_78_method_4_code_32) (v := (r ||| (((o_lb (o_sh (o_zz p0))).toInt64 &&& (127 : Int64)) <<< (7 : Int64)))) rfl (n := 33) rfl ?_
      refine o_lstoreN X17 hx (hb hby d_prog_78_method_4_code_33) (Ls' := #[.val (.ref a1), .val (.long (r ||| (((o_lb (o_sh (o_zz p0))).toInt64 &&& (127 : Int64)) <<< (7 : Int64)))), .second, .val (.int (7 : Int32)), .val (.int (o_lb (o_sh (o_zz p0))))]) rfl (n := 34) rfl ?_
      generalize h_r_1 : (r ||| (((o_lb (o_sh (o_zz p0))).toInt64 &&& (127 : Int64)) <<< (7 : Int64))) = r_1
      have hf : r_1 = (o_zz p0) := o_fin_1 (o_zz p0) hr1 hz1 h_r_1
      refine o_iinc X17 hx (hb hby d_prog_78_method_4_code_34) (w := (14 : Int32)) rfl (by decide) (Ls' := #[.val (.ref a1), .val (.long r_1), .second, .val (.int (14 : Int32)), .val (.int (o_lb (o_sh (o_zz p0))))]) rfl (n := 37) rfl ?_
      refine o_iload X17 hx (hb hby d_prog_78_method_4_code_37) (v := (o_lb (o_sh (o_zz p0)))) rfl (n := 39) rfl ?_
      refine o_sipush X17 hx (hb hby d_prog_78_method_4_code_39) (v := (128 : Int32)) rfl (n := 42) rfl ?_
      refine o_iand X17 hx (hb hby d_prog_78_method_4_code_42) (v := ((o_lb (o_sh (o_zz p0))) &&& (128 : Int32))) rfl (n := 43) rfl ?_
      refine o_ifN X17 hx (hb hby d_prog_78_method_4_code_43) (XT.i0_ne_f (o_lb128 hz1)) (n := 46) rfl ?_
      refine o_lloadN X17 hx (hb hby d_prog_78_method_4_code_46) (v := r_1) rfl (n := 47) rfl ?_
      refine o_iconst X17 hx (hb hby d_prog_78_method_4_code_47) (v := (1 : Int32)) rfl (n := 48) rfl ?_
      refine o_lushr X17 hx (hb hby d_prog_78_method_4_code_48) (v := (r_1.toUInt64 >>> (1 : UInt64)).toInt64) (congrArg (fun q : UInt64 => (r_1.toUInt64 >>> q).toInt64) (show ((1 : Int32) &&& 0x3f).toInt64.toUInt64 = 1 by decide)) (n := 49) rfl ?_
      refine o_lloadN X17 hx (hb hby d_prog_78_method_4_code_49) (v := r_1) rfl (n := 50) rfl ?_
      refine o_lconst X17 hx (hb hby d_prog_78_method_4_code_50) (v := (1 : Int64)) rfl (n := 51) rfl ?_
      refine o_land X17 hx (hb hby d_prog_78_method_4_code_51) (v := (r_1 &&& (1 : Int64))) rfl (n := 52) rfl ?_
      refine o_lneg X17 hx (hb hby d_prog_78_method_4_code_52) (v := (-(r_1 &&& (1 : Int64)))) rfl (n := 53) rfl ?_
      refine o_lxor X17 hx (hb hby d_prog_78_method_4_code_53) (v := (o_un r_1)) rfl (n := 54) rfl ?_
      have fP : Fld Z h17 a1 "com/example/estim365/estim365/formats/BytesIn" "position" "I" (.int (Int32.ofNat (pre.length + (o_enc 9 (o_zz p0)).length))) := by rw [hE]; exact F17
      exact o_lreturn X17 hx hret hlk (hb hby d_prog_78_method_4_code_54) (by decide) (by decide) e17 ⟨(by rw [hf, o_unzz]), N20, K21, E_17, f18, fP⟩
    · have hn1 : o_enc 9 (o_zz p0) = [(o_mb (o_zz p0))] ++ (o_mb (o_sh (o_zz p0))) :: o_enc 7 (o_sh (o_sh (o_zz p0))) := by simp [o_enc, hz0, hz1]
      refine o_aloadN X10 hx (hb hby d_prog_78_method_4_code_4) (v := (.ref a1)) rfl rfl (n := 5) rfl ?_
      refine o_getfield X10 hx hZ hown (host := "") (Or.inl (hw _ (List.mem_of_getElem? (i := 45) rfl))) Via.refl e10 f11 (hb hby d_prog_78_method_4_code_5) (n := 8) rfl ?_
      intro T22 X22 e22
      refine o_aloadN X22 hx (hb hby d_prog_78_method_4_code_8) (v := (.ref a1)) rfl rfl (n := 9) rfl ?_
      refine o_dup X22 hx (hb hby d_prog_78_method_4_code_9) rfl (n := 10) rfl ?_
      refine o_getfield X22 hx hZ hown (host := "") (Or.inl (hw _ (List.mem_of_getElem? (i := 47) rfl))) Via.refl e22 F10 (hb hby d_prog_78_method_4_code_10) (n := 13) rfl ?_
      intro T23 X23 e23
      refine o_dup_x1 X23 hx (hb hby d_prog_78_method_4_code_13) rfl rfl (n := 14) rfl ?_
      refine o_iconst X23 hx (hb hby d_prog_78_method_4_code_14) (v := (1 : Int32)) rfl (n := 15) rfl ?_
      refine o_iadd X23 hx (hb hby d_prog_78_method_4_code_15) (v := (Int32.ofNat (pre.length + 2))) (o_suc _) (n := 16) rfl ?_
      refine o_putfield X23 hx hZ hown (host := "") (Or.inl (hw _ (List.mem_of_getElem? (i := 47) rfl))) Via.refl e23 F10 E_10 (Or.inl (hw _ (List.mem_of_getElem? (i := 48) rfl))) (hw _ (List.mem_of_getElem? (i := 39) rfl)) (ty := .int) (by decide) rfl rfl (hb hby d_prog_78_method_4_code_16) (n := 19) rfl ?_
      intro T24 h24 X24 e24 W24 F24 E_24
      have f25 := f11.other W24 (Or.inr (slot_ne (Or.inr (hw _ (List.mem_of_getElem? (i := 46) rfl))) (Or.inl (hw _ (List.mem_of_getElem? (i := 48) rfl))) (by decide) (t := (.array .byte)) (t' := .int) (by decide) (by decide)))
      have f26 := f12.other W24 pne_a2_a1
      have zz24 : n0 ≤ h24.size := Nat.le_trans zz10 (Nat.le_of_eq W24.size.symm)
      have N27 := Fr.snoc X24 N13 pg_a1
      have K28 : Keep h0 h24 [a1] := K14.wr W24 (Or.inl (List.mem_of_getElem? (i := 0) rfl))
      refine o_baload X24 hx hZ e24 f26 ((pre.length + 1)) (o_tn (by omega)) (o_rg (by omega)) (v := (.int (o_mb (o_sh (o_zz p0))))) (o_nth pre post [(o_mb (o_zz p0))] _ _ _ 1 rfl hn1) (hb hby d_prog_78_method_4_code_19) (n := 20) rfl ?_
      refine o_istore X24 hx (hb hby d_prog_78_method_4_code_20) (Ls' := #[.val (.ref a1), .val (.long r), .second, .val (.int (7 : Int32)), .val (.int (o_mb (o_sh (o_zz p0))))]) rfl (n := 22) rfl ?_
      refine o_lloadN X24 hx (hb hby d_prog_78_method_4_code_22) (v := r) rfl (n := 23) rfl ?_
      refine o_iload X24 hx (hb hby d_prog_78_method_4_code_23) (v := (o_mb (o_sh (o_zz p0)))) rfl (n := 25) rfl ?_
      refine o_i2l X24 hx (hb hby d_prog_78_method_4_code_25) (v := (o_mb (o_sh (o_zz p0))).toInt64) rfl (n := 26) rfl ?_
      refine o_ldc2_w X24 hx hZ (v := (127 : Int64)) hown (hw _ (List.mem_of_getElem? (i := 54) rfl)) (hb hby d_prog_78_method_4_code_26) (n := 29) rfl ?_
      refine o_land X24 hx (hb hby d_prog_78_method_4_code_29) (v := ((o_mb (o_sh (o_zz p0))).toInt64 &&& (127 : Int64))) rfl (n := 30) rfl ?_
      refine o_iloadN X24 hx (hb hby d_prog_78_method_4_code_30) (v := (7 : Int32)) rfl (n := 31) rfl ?_
      refine o_lshl X24 hx (hb hby d_prog_78_method_4_code_31) (v := (((o_mb (o_sh (o_zz p0))).toInt64 &&& (127 : Int64)) <<< (7 : Int64))) (congrArg (fun q : Int64 => ((o_mb (o_sh (o_zz p0))).toInt64 &&& (127 : Int64)) <<< q) (show ((7 : Int32) &&& 0x3f).toInt64 = 7 by decide)) (n := 32) rfl ?_
      refine o_lor X24 hx (hb hby d_prog_78_method_4_code_32) (v := (r ||| (((o_mb (o_sh (o_zz p0))).toInt64 &&& (127 : Int64)) <<< (7 : Int64)))) rfl (n := 33) rfl ?_
      refine o_lstoreN X24 hx (hb hby d_prog_78_method_4_code_33) (Ls' := #[.val (.ref a1), .val (.long (r ||| (((o_mb (o_sh (o_zz p0))).toInt64 &&& (127 : Int64)) <<< (7 : Int64)))), .second, .val (.int (7 : Int32)), .val (.int (o_mb (o_sh (o_zz p0))))]) rfl (n := 34) rfl ?_
      generalize h_r_1 : (r ||| (((o_mb (o_sh (o_zz p0))).toInt64 &&& (127 : Int64)) <<< (7 : Int64))) = r_1
      have hr2 := o_acc_1 (o_zz p0) hr1 h_r_1
      refine o_iinc X24 hx (hb hby d_prog_78_method_4_code_34) (w := (14 : Int32)) rfl (by decide) (Ls' := #[.val (.ref a1), .val (.long r_1), .second, .val (.int (14 : Int32)), .val (.int (o_mb (o_sh (o_zz p0))))]) rfl (n := 37) rfl ?_
      refine o_iload X24 hx (hb hby d_prog_78_method_4_code_37) (v := (o_mb (o_sh (o_zz p0)))) rfl (n := 39) rfl ?_
      refine o_sipush X24 hx (hb hby d_prog_78_method_4_code_39) (v := (128 : Int32)) rfl (n := 42) rfl ?_
      refine o_iand X24 hx (hb hby d_prog_78_method_4_code_42) (v := ((o_mb (o_sh (o_zz p0))) &&& (128 : Int32))) rfl (n := 43) rfl ?_
      refine o_ifY X24 hx (hb hby d_prog_78_method_4_code_43) (XT.i0_ne_t (o_mb128 _)) (by decide) (n := 4) (by decide) ?_
      by_cases hz2 : (o_sh (o_sh (o_zz p0))) &&& (-128 : Int64) = 0
      · have hE : o_enc 9 (o_zz p0) = [(o_mb (o_zz p0)), (o_mb (o_sh (o_zz p0))), (o_lb (o_sh (o_sh (o_zz p0))))] := by simp [o_enc, hz0, hz1, hz2]
        have hn2 : o_enc 9 (o_zz p0) = [(o_mb (o_zz p0)), (o_mb (o_sh (o_zz p0)))] ++ (o_lb (o_sh (o_sh (o_zz p0)))) :: [] := by simp [o_enc, hz0, hz1, hz2]
        refine o_aloadN X24 hx (hb hby d_prog_78_method_4_code_4) (v := (.ref a1)) rfl rfl (n := 5) rfl ?_
        refine o_getfield X24 hx hZ hown (host := "") (Or.inl (hw _ (List.mem_of_getElem? (i := 45) rfl))) Via.refl e24 f25 (hb hby d_prog_78_method_4_code_5) (n := 8) rfl ?_
        intro T29 X29 e29
        refine o_aloadN X29 hx (hb hby d_prog_78_method_4_code_8) (v := (.ref a1)) rfl rfl (n := 9) rfl ?_
        refine o_dup X29 hx (hb hby d_prog_78_method_4_code_9) rfl (n := 10) rfl ?_
        refine o_getfield X29 hx hZ hown (host := "") (Or.inl (hw _ (List.mem_of_getElem? (i := 47) rfl))) Via.refl e29 F24 (hb hby d_prog_78_method_4_code_10) (n := 13) rfl ?_
        intro T30 X30 e30
        refine o_dup_x1 X30 hx (hb hby d_prog_78_method_4_code_13) rfl rfl (n := 14) rfl ?_
        refine o_iconst X30 hx (hb hby d_prog_78_method_4_code_14) (v := (1 : Int32)) rfl (n := 15) rfl ?_
        refine o_iadd X30 hx (hb hby d_prog_78_method_4_code_15) (v := (Int32.ofNat (pre.length + 3))) (o_suc _) (n := 16) rfl ?_
        refine o_putfield X30 hx hZ hown (host := "") (Or.inl (hw _ (List.mem_of_getElem? (i := 47) rfl))) Via.refl e30 F24 E_24 (Or.inl (hw _ (List.mem_of_getElem? (i := 48) rfl))) (hw _ (List.mem_of_getElem? (i := 39) rfl)) (ty := .int) (by decide) rfl rfl (hb hby d_prog_78_method_4_code_16) (n := 19) rfl ?_
        intro T31 h31 X31 e31 W31 F31 E_31
        have f32 := f25.other W31 (Or.inr (slot_ne (Or.inr (hw _ (List.mem_of_getElem? (i := 46) rfl))) (Or.inl (hw _ (List.mem_of_getElem? (i := 48) rfl))) (by decide) (t := (.array .byte)) (t' := .int) (by decide) (by decide)))
        have f33 := f26.other W31 pne_a2_a1
        have zz31 : n0 ≤ h31.size := Nat.le_trans zz24 (Nat.le_of_eq W31.size.symm)
        have N34 := Fr.snoc X31 N27 pg_a1
        have K35 : Keep h0 h31 [a1] := K28.wr W31 (Or.inl (List.mem_of_getElem? (i := 0) rfl))
        refine o_baload X31 hx hZ e31 f33 ((pre.length + 2)) (o_tn (by omega)) (o_rg (by omega)) (v := (.int (o_lb (o_sh (o_sh (o_zz p0)))))) (o_nth pre post [(o_mb (o_zz p0)), (o_mb (o_sh (o_zz p0)))] _ _ _ 2 rfl hn2) (hb hby d_prog_78_method_4_code_19) (n := 20) rfl ?_
        refine o_istore X31 hx (hb hby d_prog_78_method_4_code_20) (Ls' := #[.val (.ref a1), .val (.long r_1), .second, .val (.int (14 : Int32)), .val (.int (o_lb (o_sh (o_sh (o_zz p0)))))]) rfl (n := 22) rfl ?_
        refine o_lloadN X31 hx (hb hby d_prog_78_method_4_code_22) (v := r_1) rfl (n := 23) rfl ?_
        refine o_iload X31 hx (hb hby d_prog_78_method_4_code_23) (v := (o_lb (o_sh (o_sh (o_zz p0))))) rfl (n := 25) rfl ?_
        refine o_i2l X31 hx (hb hby d_prog_78_method_4_code_25) (v := (o_lb (o_sh (o_sh (o_zz p0)))).toInt64) rfl (n := 26) rfl ?_
        refine o_ldc2_w X31 hx hZ (v := (127 : Int64)) hown (hw _ (List.mem_of_getElem? (i := 54) rfl)) (hb hby d_prog_78_method_4_code_26) (n := 29) rfl ?_
        refine o_land X31 hx (hb hby d_prog_78_method_4_code_29) (v := ((o_lb (o_sh (o_sh (o_zz p0)))).toInt64 &&& (127 : Int64))) rfl (n := 30) rfl ?_
        refine o_iloadN X31 hx (hb hby d_prog_78_method_4_code_30) (v := (14 : Int32)) rfl (n := 31) rfl ?_
        refine o_lshl X31 hx (hb hby d_prog_78_method_4_code_31) (v := (((o_lb (o_sh (o_sh (o_zz p0)))).toInt64 &&& (127 : Int64)) <<< (14 : Int64))) (congrArg (fun q : Int64 => ((o_lb (o_sh (o_sh (o_zz p0)))).toInt64 &&& (127 : Int64)) <<< q) (show ((14 : Int32) &&& 0x3f).toInt64 = 14 by decide)) (n := 32) rfl ?_
        refine o_lor X31 hx (hb hby d_prog_78_method_4_code_32) (v := (r_1 ||| (((o_lb (o_sh (o_sh (o_zz p0)))).toInt64 &&& (127 : Int64)) <<< (14 : Int64)))) rfl (n := 33) rfl ?_
        refine o_lstoreN X31 hx (hb hby d_prog_78_method_4_code_33) (Ls' := #[.val (.ref a1), .val (.long (r_1 ||| (((o_lb (o_sh (o_sh (o_zz p0)))).toInt64 &&& (127 : Int64)) <<< (14 : Int64)))), .second, .val (.int (14 : Int32)), .val (.int (o_lb (o_sh (o_sh (o_zz p0)))))]) rfl (n := 34) rfl ?_
        generalize h_r_2 : (r_1 ||| (((o_lb (o_sh (o_sh (o_zz p0)))).toInt64 &&& (127 : Int64)) <<< (14 : Int64))) = r_2
        have hf : r_2 = (o_zz p0) := o_fin_2 (o_zz p0) hr2 hz2 h_r_2
        refine o_iinc X31 hx (hb hby d_prog_78_method_4_code_34) (w := (21 : Int32)) rfl (by decide) (Ls' := #[.val (.ref a1), .val (.long r_2), .second, .val (.int (21 : Int32)), .val (.int (o_lb (o_sh (o_sh (o_zz p0)))))]) rfl (n := 37) rfl ?_
        refine o_iload X31 hx (hb hby d_prog_78_method_4_code_37) (v := (o_lb (o_sh (o_sh (o_zz p0))))) rfl (n := 39) rfl ?_
        refine o_sipush X31 hx (hb hby d_prog_78_method_4_code_39) (v := (128 : Int32)) rfl (n := 42) rfl ?_
        refine o_iand X31 hx (hb hby d_prog_78_method_4_code_42) (v := ((o_lb (o_sh (o_sh (o_zz p0)))) &&& (128 : Int32))) rfl (n := 43) rfl ?_
        refine o_ifN X31 hx (hb hby d_prog_78_method_4_code_43) (XT.i0_ne_f (o_lb128 hz2)) (n := 46) rfl ?_
        refine o_lloadN X31 hx (hb hby d_prog_78_method_4_code_46) (v := r_2) rfl (n := 47) rfl ?_
        refine o_iconst X31 hx (hb hby d_prog_78_method_4_code_47) (v := (1 : Int32)) rfl (n := 48) rfl ?_
        refine o_lushr X31 hx (hb hby d_prog_78_method_4_code_48) (v := (r_2.toUInt64 >>> (1 : UInt64)).toInt64) (congrArg (fun q : UInt64 => (r_2.toUInt64 >>> q).toInt64) (show ((1 : Int32) &&& 0x3f).toInt64.toUInt64 = 1 by decide)) (n := 49) rfl ?_
        refine o_lloadN X31 hx (hb hby d_prog_78_method_4_code_49) (v := r_2) rfl (n := 50) rfl ?_
        refine o_lconst X31 hx (hb hby d_prog_78_method_4_code_50) (v := (1 : Int64)) rfl (n := 51) rfl ?_
        refine o_land X31 hx (hb hby d_prog_78_method_4_code_51) (v := (r_2 &&& (1 : Int64))) rfl (n := 52) rfl ?_
        refine o_lneg X31 hx (hb hby d_prog_78_method_4_code_52) (v := (-(r_2 &&& (1 : Int64)))) rfl (n := 53) rfl ?_
        refine o_lxor X31 hx (hb hby d_prog_78_method_4_code_53) (v := (o_un r_2)) rfl (n := 54) rfl ?_
        have fP : Fld Z h31 a1 "com/example/estim365/estim365/formats/BytesIn" "position" "I" (.int (Int32.ofNat (pre.length + (o_enc 9 (o_zz p0)).length))) := by rw [hE]; exact F31
        exact o_lreturn X31 hx hret hlk (hb hby d_prog_78_method_4_code_54) (by decide) (by decide) e31 ⟨(by rw [hf, o_unzz]), N34, K35, E_31, f32, fP⟩
      · have hn2 : o_enc 9 (o_zz p0) = [(o_mb (o_zz p0)), (o_mb (o_sh (o_zz p0)))] ++ (o_mb (o_sh (o_sh (o_zz p0)))) :: o_enc 6 (o_sh (o_sh (o_sh (o_zz p0)))) := by simp [o_enc, hz0, hz1, hz2]
        refine o_aloadN X24 hx (hb hby d_prog_78_method_4_code_4) (v := (.ref a1)) rfl rfl (n := 5) rfl ?_
        refine o_getfield X24 hx hZ hown (host := "") (Or.inl (hw _ (List.mem_of_getElem? (i := 45) rfl))) Via.refl e24 f25 (hb hby d_prog_78_method_4_code_5) (n := 8) rfl ?_
        intro T36 X36 e36
        refine o_aloadN X36 hx (hb hby d_prog_78_method_4_code_8) (v := (.ref a1)) rfl rfl (n := 9) rfl ?_
        refine o_dup X36 hx (hb hby d_prog_78_method_4_code_9) rfl (n := 10) rfl ?_
        refine o_getfield X36 hx hZ hown (host := "") (Or.inl (hw _ (List.mem_of_getElem? (i := 47) rfl))) Via.refl e36 F24 (hb hby d_prog_78_method_4_code_10) (n := 13) rfl ?_
        intro T37 X37 e37
        refine o_dup_x1 X37 hx (hb hby d_prog_78_method_4_code_13) rfl rfl (n := 14) rfl ?_
        refine o_iconst X37 hx (hb hby d_prog_78_method_4_code_14) (v := (1 : Int32)) rfl (n := 15) rfl ?_
        refine o_iadd X37 hx (hb hby d_prog_78_method_4_code_15) (v := (Int32.ofNat (pre.length + 3))) (o_suc _) (n := 16) rfl ?_
        refine o_putfield X37 hx hZ hown (host := "") (Or.inl (hw _ (List.mem_of_getElem? (i := 47) rfl))) Via.refl e37 F24 E_24 (Or.inl (hw _ (List.mem_of_getElem? (i := 48) rfl))) (hw _ (List.mem_of_getElem? (i := 39) rfl)) (ty := .int) (by decide) rfl rfl (hb hby d_prog_78_method_4_code_16) (n := 19) rfl ?_
        intro T38 h38 X38 e38 W38 F38 E_38
        have f39 := f25.other W38 (Or.inr (slot_ne (Or.inr (hw _ (List.mem_of_getElem? (i := 46) rfl))) (Or.inl (hw _ (List.mem_of_getElem? (i := 48) rfl))) (by decide) (t := (.array .byte)) (t' := .int) (by decide) (by decide)))
        have f40 := f26.other W38 pne_a2_a1
        have zz38 : n0 ≤ h38.size := Nat.le_trans zz24 (Nat.le_of_eq W38.size.symm)
        have N41 := Fr.snoc X38 N27 pg_a1
        have K42 : Keep h0 h38 [a1] := K28.wr W38 (Or.inl (List.mem_of_getElem? (i := 0) rfl))
        refine o_baload X38 hx hZ e38 f40 ((pre.length + 2)) (o_tn (by omega)) (o_rg (by omega)) (v := (.int (o_mb (o_sh (o_sh (o_zz p0)))))) (o_nth pre post [(o_mb (o_zz p0)), (o_mb (o_sh (o_zz p0)))] _ _ _ 2 rfl hn2) (hb hby d_prog_78_method_4_code_19) (n := 20) rfl ?_
        refine o_istore X38 hx (hb hby d_prog_78_method_4_code_20) (Ls' := #[.val (.ref a1), .val (.long r_1), .second, .val (.int (14 : Int32)), .val (.int (o_mb (o_sh (o_sh (o_zz p0)))))]) rfl (n := 22) rfl ?_
        refine o_lloadN X38 hx (hb hby d_prog_78_method_4_code_22) (v := r_1) rfl (n := 23) rfl ?_
        refine o_iload X38 hx (hb hby d_prog_78_method_4_code_23) (v := (o_mb (o_sh (o_sh (o_zz p0))))) rfl (n := 25) rfl ?_
        refine o_i2l X38 hx (hb hby d_prog_78_method_4_code_25) (v := (o_mb (o_sh (o_sh (o_zz p0)))).toInt64) rfl (n := 26) rfl ?_
        refine o_ldc2_w X38 hx hZ (v := (127 : Int64)) hown (hw _ (List.mem_of_getElem? (i := 54) rfl)) (hb hby d_prog_78_method_4_code_26) (n := 29) rfl ?_
        refine o_land X38 hx (hb hby d_prog_78_method_4_code_29) (v := ((o_mb (o_sh (o_sh (o_zz p0)))).toInt64 &&& (127 : Int64))) rfl (n := 30) rfl ?_
        refine o_iloadN X38 hx (hb hby d_prog_78_method_4_code_30) (v := (14 : Int32)) rfl (n := 31) rfl ?_
        refine o_lshl X38 hx (hb hby d_prog_78_method_4_code_31) (v := (((o_mb (o_sh (o_sh (o_zz p0)))).toInt64 &&& (127 : Int64)) <<< (14 : Int64))) (congrArg (fun q : Int64 => ((o_mb (o_sh (o_sh (o_zz p0)))).toInt64 &&& (127 : Int64)) <<< q) (show ((14 : Int32) &&& 0x3f).toInt64 = 14 by decide)) (n := 32) rfl ?_
        refine o_lor X38 hx (hb hby d_prog_78_method_4_code_32) (v := (r_1 ||| (((o_mb (o_sh (o_sh (o_zz p0)))).toInt64 &&& (127 : Int64)) <<< (14 : Int64)))) rfl (n := 33) rfl ?_
        refine o_lstoreN X38 hx (hb hby d_prog_78_method_4_code_33) (Ls' := #[.val (.ref a1), .val (.long (r_1 ||| (((o_mb (o_sh (o_sh (o_zz p0)))).toInt64 &&& (127 : Int64)) <<< (14 : Int64)))), .second, .val (.int (14 : Int32)), .val (.int (o_mb (o_sh (o_sh (o_zz p0)))))]) rfl (n := 34) rfl ?_
        generalize h_r_2 : (r_1 ||| (((o_mb (o_sh (o_sh (o_zz p0)))).toInt64 &&& (127 : Int64)) <<< (14 : Int64))) = r_2
        have hr3 := o_acc_2 (o_zz p0) hr2 h_r_2
        refine o_iinc X38 hx (hb hby d_prog_78_method_4_code_34) (w := (21 : Int32)) rfl (by decide) (Ls' := #[.val (.ref a1), .val (.long r_2), .second, .val (.int (21 : Int32)), .val (.int (o_mb (o_sh (o_sh (o_zz p0)))))]) rfl (n := 37) rfl ?_
        refine o_iload X38 hx (hb hby d_prog_78_method_4_code_37) (v := (o_mb (o_sh (o_sh (o_zz p0))))) rfl (n := 39) rfl ?_
        refine o_sipush X38 hx (hb hby d_prog_78_method_4_code_39) (v := (128 : Int32)) rfl (n := 42) rfl ?_
        refine o_iand X38 hx (hb hby d_prog_78_method_4_code_42) (v := ((o_mb (o_sh (o_sh (o_zz p0)))) &&& (128 : Int32))) rfl (n := 43) rfl ?_
        refine o_ifY X38 hx (hb hby d_prog_78_method_4_code_43) (XT.i0_ne_t (o_mb128 _)) (by decide) (n := 4) (by decide) ?_
        by_cases hz3 : (o_sh (o_sh (o_sh (o_zz p0)))) &&& (-128 : Int64) = 0
        · have hE : o_enc 9 (o_zz p0) = [(o_mb (o_zz p0)), (o_mb (o_sh (o_zz p0))), (o_mb (o_sh (o_sh (o_zz p0)))), (o_lb (o_sh (o_sh (o_sh (o_zz p0)))))] := by simp [o_enc, hz0, hz1, hz2, hz3]
          have hn3 : o_enc 9 (o_zz p0) = [(o_mb (o_zz p0)), (o_mb (o_sh (o_zz p0))), (o_mb (o_sh (o_sh (o_zz p0))))] ++ (o_lb (o_sh (o_sh (o_sh (o_zz p0))))) :: [] := by simp [o_enc, hz0, hz1, hz2, hz3]
          refine o_aloadN X38 hx (hb hby d_prog_78_method_4_code_4) (v := (.ref a1)) rfl rfl (n := 5) rfl ?_
          refine o_getfield X38 hx hZ hown (host := "") (Or.inl (hw _ (List.mem_of_getElem? (i := 45) rfl))) Via.refl e38 f39 (hb hby d_prog_78_method_4_code_5) (n := 8) rfl ?_
          intro T43 X43 e43
          refine o_aloadN X43 hx (hb hby d_prog_78_method_4_code_8) (v := (.ref a1)) rfl rfl (n := 9) rfl ?_
          refine o_dup X43 hx (hb hby d_prog_78_method_4_code_9) rfl (n := 10) rfl ?_
          refine o_getfield X43 hx hZ hown (host := "") (Or.inl (hw _ (List.mem_of_getElem? (i := 47) rfl))) Via.refl e43 F38 (hb hby d_prog_78_method_4_code_10) (n := 13) rfl ?_
          intro T44 X44 e44
          refine o_dup_x1 X44 hx (hb hby d_prog_78_method_4_code_13) rfl rfl (n := 14) rfl ?_
          refine o_iconst X44 hx (hb hby d_prog_78_method_4_code_14) (v := (1 : Int32)) rfl (n := 15) rfl ?_
          refine o_iadd X44 hx (hb hby d_prog_78_method_4_code_15) (v := (Int32.ofNat (pre.length + 4))) (o_suc _) (n := 16) rfl ?_
          refine o_putfield X44 hx hZ hown (host := "") (Or.inl (hw _ (List.mem_of_getElem? (i := 47) rfl))) Via.refl e44 F38 E_38 (Or.inl (hw _ (List.mem_of_getElem? (i := 48) rfl))) (hw _ (List.mem_of_getElem? (i := 39) rfl)) (ty := .int) (by decide) rfl rfl (hb hby d_prog_78_method_4_code_16) (n := 19) rfl ?_
          intro T45 h45 X45 e45 W45 F45 E_45
          have f46 := f39.other W45 (Or.inr (slot_ne (Or.inr (hw _ (List.mem_of_getElem? (i := 46) rfl))) (Or.inl (hw _ (List.mem_of_getElem? (i := 48) rfl))) (by decide) (t := (.array .byte)) (t' := .int) (by decide) (by decide)))
          have f47 := f40.other W45 pne_a2_a1
          have zz45 : n0 ≤ h45.size := Nat.le_trans zz38 (Nat.le_of_eq W45.size.symm)
          have N48 := Fr.snoc X45 N41 pg_a1
          have K49 : Keep h0 h45 [a1] := K42.wr W45 (Or.inl (List.mem_of_getElem? (i := 0) rfl))
          refine o_baload X45 hx hZ e45 f47 ((pre.length + 3)) (o_tn (by omega)) (o_rg (by omega)) (v := (.int (o_lb (o_sh (o_sh (o_sh (o_zz p0))))))) (o_nth pre post [(o_mb (o_zz p0)), (o_mb (o_sh (o_zz p0))), (o_mb (o_sh (o_sh (o_zz p0))))] _ _ _ 3 rfl hn3) (hb hby d_prog_78_method_4_code_19) (n := 20) rfl ?_
          refine o_istore X45 hx (hb hby d_prog_78_method_4_code_20) (Ls' := #[.val (.ref a1), .val (.long r_2), .second, .val (.int (21 : Int32)), .val (.int (o_lb (o_sh (o_sh (o_sh (o_zz p0))))))]) rfl (n := 22) rfl ?_
          refine o_lloadN X45 hx (hb hby d_prog_78_method_4_code_22) (v := r_2) rfl (n := 23) rfl ?_
          refine o_iload X45 hx (hb hby d_prog_78_method_4_code_23) (v := (o_lb (o_sh (o_sh (o_sh (o_zz p0)))))) rfl (n := 25) rfl ?_
          refine o_i2l X45 hx (hb hby d_prog_78_method_4_code_25) (v := (o_lb (o_sh (o_sh (o_sh (o_zz p0))))).toInt64) rfl (n := 26) rfl ?_
          refine o_ldc2_w X45 hx hZ (v := (127 : Int64)) hown (hw _ (List.mem_of_getElem? (i := 54) rfl)) (hb hby d_prog_78_method_4_code_26) (n := 29) rfl ?_
          refine o_land X45 hx (hb hby d_prog_78_method_4_code_29) (v := ((o_lb (o_sh (o_sh (o_sh (o_zz p0))))).toInt64 &&& (127 : Int64))) rfl (n := 30) rfl ?_
          refine o_iloadN X45 hx (hb hby d_prog_78_method_4_code_30) (v := (21 : Int32)) rfl (n := 31) rfl ?_
          refine o_lshl X45 hx (hb hby d_prog_78_method_4_code_31) (v := (((o_lb (o_sh (o_sh (o_sh (o_zz p0))))).toInt64 &&& (127 : Int64)) <<< (21 : Int64))) (congrArg (fun q : Int64 => ((o_lb (o_sh (o_sh (o_sh (o_zz p0))))).toInt64 &&& (127 : Int64)) <<< q) (show ((21 : Int32) &&& 0x3f).toInt64 = 21 by decide)) (n := 32) rfl ?_
          refine o_lor X45 hx (hb hby d_prog_78_method_4_code_32) (v := (r_2 ||| (((o_lb (o_sh (o_sh (o_sh (o_zz p0))))).toInt64 &&& (127 : Int64)) <<< (21 : Int64)))) rfl (n := 33) rfl ?_
          refine o_lstoreN X45 hx (hb hby d_prog_78_method_4_code_33) (Ls' := #[.val (.ref a1), .val (.long (r_2 ||| (((o_lb (o_sh (o_sh (o_sh (o_zz p0))))).toInt64 &&& (127 : Int64)) <<< (21 : Int64)))), .second, .val (.int (21 : Int32)), .val (.int (o_lb (o_sh (o_sh (o_sh (o_zz p0))))))]) rfl (n := 34) rfl ?_
          generalize h_r_3 : (r_2 ||| (((o_lb (o_sh (o_sh (o_sh (o_zz p0))))).toInt64 &&& (127 : Int64)) <<< (21 : Int64))) = r_3
          have hf : r_3 = (o_zz p0) := o_fin_3 (o_zz p0) hr3 hz3 h_r_3
          refine o_iinc X45 hx (hb hby d_prog_78_method_4_code_34) (w := (28 : Int32)) rfl (by decide) (Ls' := #[.val (.ref a1), .val (.long r_3), .second, .val (.int (28 : Int32)), .val (.int (o_lb (o_sh (o_sh (o_sh (o_zz p0))))))]) rfl (n := 37) rfl ?_
          refine o_iload X45 hx (hb hby d_prog_78_method_4_code_37) (v := (o_lb (o_sh (o_sh (o_sh (o_zz p0)))))) rfl (n := 39) rfl ?_
          refine o_sipush X45 hx (hb hby d_prog_78_method_4_code_39) (v := (128 : Int32)) rfl (n := 42) rfl ?_
          refine o_iand X45 hx (hb hby d_prog_78_method_4_code_42) (v := ((o_lb (o_sh (o_sh (o_sh (o_zz p0))))) &&& (128 : Int32))) rfl (n := 43) rfl ?_
          refine o_ifN X45 hx (hb hby d_prog_78_method_4_code_43) (XT.i0_ne_f (o_lb128 hz3)) (n := 46) rfl ?_
          refine o_lloadN X45 hx (hb hby d_prog_78_method_4_code_46) (v := r_3) rfl (n := 47) rfl ?_
          refine o_iconst X45 hx (hb hby d_prog_78_method_4_code_47) (v := (1 : Int32)) rfl (n := 48) rfl ?_
          refine o_lushr X45 hx (hb hby d_prog_78_method_4_code_48) (v := (r_3.toUInt64 >>> (1 : UInt64)).toInt64) (congrArg (fun q : UInt64 => (r_3.toUInt64 >>> q).toInt64) (show ((1 : Int32) &&& 0x3f).toInt64.toUInt64 = 1 by decide)) (n := 49) rfl ?_
          refine o_lloadN X45 hx (hb hby d_prog_78_method_4_code_49) (v := r_3) rfl (n := 50) rfl ?_
          refine o_lconst X45 hx (hb hby d_prog_78_method_4_code_50) (v := (1 : Int64)) rfl (n := 51) rfl ?_
          refine o_land X45 hx (hb hby d_prog_78_method_4_code_51) (v := (r_3 &&& (1 : Int64))) rfl (n := 52) rfl ?_
          refine o_lneg X45 hx (hb hby d_prog_78_method_4_code_52) (v := (-(r_3 &&& (1 : Int64)))) rfl (n := 53) rfl ?_
          refine o_lxor X45 hx (hb hby d_prog_78_method_4_code_53) (v := (o_un r_3)) rfl (n := 54) rfl ?_
          have fP : Fld Z h45 a1 "com/example/estim365/estim365/formats/BytesIn" "position" "I" (.int (Int32.ofNat (pre.length + (o_enc 9 (o_zz p0)).length))) := by rw [hE]; exact F45
          exact o_lreturn X45 hx hret hlk (hb hby d_prog_78_method_4_code_54) (by decide) (by decide) e45 ⟨(by rw [hf, o_unzz]), N48, K49, E_45, f46, fP⟩
        · have hn3 : o_enc 9 (o_zz p0) = [(o_mb (o_zz p0)), (o_mb (o_sh (o_zz p0))), (o_mb (o_sh (o_sh (o_zz p0))))] ++ (o_mb (o_sh (o_sh (o_sh (o_zz p0))))) :: o_enc 5 (o_sh (o_sh (o_sh (o_sh (o_zz p0))))) := by simp [o_enc, hz0, hz1, hz2, hz3]
          refine o_aloadN X38 hx (hb hby d_prog_78_method_4_code_4) (v := (.ref a1)) rfl rfl (n := 5) rfl ?_
          refine o_getfield X38 hx hZ hown (host := "") (Or.inl (hw _ (List.mem_of_getElem? (i := 45) rfl))) Via.refl e38 f39 (hb hby d_prog_78_method_4_code_5) (n := 8) rfl ?_
          intro T50 X50 e50
          refine o_aloadN X50 hx (hb hby d_prog_78_method_4_code_8) (v := (.ref a1)) rfl rfl (n := 9) rfl ?_
          refine o_dup X50 hx (hb hby d_prog_78_method_4_code_9) rfl (n := 10) rfl ?_
          refine o_getfield X50 hx hZ hown (host := "") (Or.inl (hw _ (List.mem_of_getElem? (i := 47) rfl))) Via.refl e50 F38 (hb hby d_prog_78_method_4_code_10) (n := 13) rfl ?_
          intro T51 X51 e51
          refine o_dup_x1 X51 hx (hb hby d_prog_78_method_4_code_13) rfl rfl (n := 14) rfl ?_
          refine o_iconst X51 hx (hb hby d_prog_78_method_4_code_14) (v := (1 : Int32)) rfl (n := 15) rfl ?_
          refine o_iadd X51 hx (hb hby d_prog_78_method_4_code_15) (v := (Int32.ofNat (pre.length + 4))) (o_suc _) (n := 16) rfl ?_
          refine o_putfield X51 hx hZ hown (host := "") (Or.inl (hw _ (List.mem_of_getElem? (i := 47) rfl))) Via.refl e51 F38 E_38 (Or.inl (hw _ (List.mem_of_getElem? (i := 48) rfl))) (hw _ (List.mem_of_getElem? (i := 39) rfl)) (ty := .int) (by decide) rfl rfl (hb hby d_prog_78_method_4_code_16) (n := 19) rfl ?_
          intro T52 h52 X52 e52 W52 F52 E_52
          have f53 := f39.other W52 (Or.inr (slot_ne (Or.inr (hw _ (List.mem_of_getElem? (i := 46) rfl))) (Or.inl (hw _ (List.mem_of_getElem? (i := 48) rfl))) (by decide) (t := (.array .byte)) (t' := .int) (by decide) (by decide)))
          have f54 := f40.other W52 pne_a2_a1
          have zz52 : n0 ≤ h52.size := Nat.le_trans zz38 (Nat.le_of_eq W52.size.symm)
          have N55 := Fr.snoc X52 N41 pg_a1
          have K56 : Keep h0 h52 [a1] := K42.wr W52 (Or.inl (List.mem_of_getElem? (i := 0) rfl))
          refine o_baload X52 hx hZ e52 f54 ((pre.length + 3)) (o_tn (by omega)) (o_rg (by omega)) (v := (.int (o_mb (o_sh (o_sh (o_sh (o_zz p0))))))) (o_nth pre post [(o_mb (o_zz p0)), (o_mb (o_sh (o_zz p0))), (o_mb (o_sh (o_sh (o_zz p0))))] _ _ _ 3 rfl hn3) (hb hby d_prog_78_method_4_code_19) (n := 20) rfl ?_
          refine o_istore X52 hx (hb hby d_prog_78_method_4_code_20) (Ls' := #[.val (.ref a1), .val (.long r_2), .second, .val (.int (21 : Int32)), .val (.int (o_mb (o_sh (o_sh (o_sh (o_zz p0))))))]) rfl (n := 22) rfl ?_
          refine o_lloadN X52 hx (hb hby d_prog_78_method_4_code_22) (v := r_2) rfl (n := 23) rfl ?_
          refine o_iload X52 hx (hb hby d_prog_78_method_4_code_23) (v := (o_mb (o_sh (o_sh (o_sh (o_zz p0)))))) rfl (n := 25) rfl ?_
          refine o_i2l X52 hx (hb hby d_prog_78_method_4_code_25) (v := (o_mb (o_sh (o_sh (o_sh (o_zz p0))))).toInt64) rfl (n := 26) rfl ?_
          refine o_ldc2_w X52 hx hZ (v := (127 : Int64)) hown (hw _ (List.mem_of_getElem? (i := 54) rfl)) (hb hby d_prog_78_method_4_code_26) (n := 29) rfl ?_
          refine o_land X52 hx (hb hby d_prog_78_method_4_code_29) (v := ((o_mb (o_sh (o_sh (o_sh (o_zz p0))))).toInt64 &&& (127 : Int64))) rfl (n := 30) rfl ?_
          refine o_iloadN X52 hx (hb hby d_prog_78_method_4_code_30) (v := (21 : Int32)) rfl (n := 31) rfl ?_
          refine o_lshl X52 hx (hb hby d_prog_78_method_4_code_31) (v := (((o_mb (o_sh (o_sh (o_sh (o_zz p0))))).toInt64 &&& (127 : Int64)) <<< (21 : Int64))) (congrArg (fun q : Int64 => ((o_mb (o_sh (o_sh (o_sh (o_zz p0))))).toInt64 &&& (127 : Int64)) <<< q) (show ((21 : Int32) &&& 0x3f).toInt64 = 21 by decide)) (n := 32) rfl ?_
          refine o_lor X52 hx (hb hby d_prog_78_method_4_code_32) (v := (r_2 ||| (((o_mb (o_sh (o_sh (o_sh (o_zz p0))))).toInt64 &&& (127 : Int64)) <<< (21 : Int64)))) rfl (n := 33) rfl ?_
          refine o_lstoreN X52 hx (hb hby d_prog_78_method_4_code_33) (Ls' := #[.val (.ref a1), .val (.long (r_2 ||| (((o_mb (o_sh (o_sh (o_sh (o_zz p0))))).toInt64 &&& (127 : Int64)) <<< (21 : Int64)))), .second, .val (.int (21 : Int32)), .val (.int (o_mb (o_sh (o_sh (o_sh (o_zz p0))))))]) rfl (n := 34) rfl ?_
          generalize h_r_3 : (r_2 ||| (((o_mb (o_sh (o_sh (o_sh (o_zz p0))))).toInt64 &&& (127 : Int64)) <<< (21 : Int64))) = r_3
          have hr4 := o_acc_3 (o_zz p0) hr3 h_r_3
          refine o_iinc X52 hx (hb hby d_prog_78_method_4_code_34) (w := (28 : Int32)) rfl (by decide) (Ls' := #[.val (.ref a1), .val (.long r_3), .second, .val (.int (28 : Int32)), .val (.int (o_mb (o_sh (o_sh (o_sh (o_zz p0))))))]) rfl (n := 37) rfl ?_
          refine o_iload X52 hx (hb hby d_prog_78_method_4_code_37) (v := (o_mb (o_sh (o_sh (o_sh (o_zz p0)))))) rfl (n := 39) rfl ?_
          refine o_sipush X52 hx (hb hby d_prog_78_method_4_code_39) (v := (128 : Int32)) rfl (n := 42) rfl ?_
          refine o_iand X52 hx (hb hby d_prog_78_method_4_code_42) (v := ((o_mb (o_sh (o_sh (o_sh (o_zz p0))))) &&& (128 : Int32))) rfl (n := 43) rfl ?_
          refine o_ifY X52 hx (hb hby d_prog_78_method_4_code_43) (XT.i0_ne_t (o_mb128 _)) (by decide) (n := 4) (by decide) ?_
          by_cases hz4 : (o_sh (o_sh (o_sh (o_sh (o_zz p0))))) &&& (-128 : Int64) = 0
          · have hE : o_enc 9 (o_zz p0) = [(o_mb (o_zz p0)), (o_mb (o_sh (o_zz p0))), (o_mb (o_sh (o_sh (o_zz p0)))), (o_mb (o_sh (o_sh (o_sh (o_zz p0))))), (o_lb (o_sh (o_sh (o_sh (o_sh (o_zz p0))))))] := by simp [o_enc, hz0, hz1, hz2, hz3, hz4]
            have hn4 : o_enc 9 (o_zz p0) = [(o_mb (o_zz p0)), (o_mb (o_sh (o_zz p0))), (o_mb (o_sh (o_sh (o_zz p0)))), (o_mb (o_sh (o_sh (o_sh (o_zz p0)))))] ++ (o_lb (o_sh (o_sh (o_sh (o_sh (o_zz p0)))))) :: [] := by simp [o_enc, hz0, hz1, hz2, hz3, hz4]
            refine o_aloadN X52 hx (hb hby d_prog_78_method_4_code_4) (v := (.ref a1)) rfl rfl (n := 5) rfl ?_
            refine o_getfield X52 hx hZ hown (host := "") (Or.inl (hw _ (List.mem_of_getElem? (i := 45) rfl))) Via.refl e52 f53 (hb hby d_prog_78_method_4_code_5) (n := 8) rfl ?_
            intro T57 X57 e57
            refine o_aloadN X57 hx (hb hby d_prog_78_method_4_code_8) (v := (.ref a1)) rfl rfl (n := 9) rfl ?_
            refine o_dup X57 hx (hb hby d_prog_78_method_4_code_9) rfl (n := 10) rfl ?_
            refine o_getfield X57 hx hZ hown (host := "") (Or.inl (hw _ (List.mem_of_getElem? (i := 47) rfl))) Via.refl e57 F52 (hb hby d_prog_78_method_4_code_10) (n := 13) rfl ?_
            intro T58 X58 e58
            refine o_dup_x1 X58 hx (hb hby d_prog_78_method_4_code_13) rfl rfl (n := 14) rfl ?_
            refine o_iconst X58 hx (hb hby d_prog_78_method_4_code_14) (v := (1 : Int32)) rfl (n := 15) rfl ?_
            refine o_iadd X58 hx (hb hby d_prog_78_method_4_code_15) (v := (Int32.ofNat (pre.length + 5))) (o_suc _) (n := 16) rfl ?_
            refine o_putfield X58 hx hZ hown (host := "") (Or.inl (hw _ (List.mem_of_getElem? (i := 47) rfl))) Via.refl e58 F52 E_52 (Or.inl (hw _ (List.mem_of_getElem? (i := 48) rfl))) (hw _ (List.mem_of_getElem? (i := 39) rfl)) (ty := .int) (by decide) rfl rfl (hb hby d_prog_78_method_4_code_16) (n := 19) rfl ?_
            intro T59 h59 X59 e59 W59 F59 E_59
            have f60 := f53.other W59 (Or.inr (slot_ne (Or.inr (hw _ (List.mem_of_getElem? (i := 46) rfl))) (Or.inl (hw _ (List.mem_of_getElem? (i := 48) rfl))) (by decide) (t := (.array .byte)) (t' := .int) (by decide) (by decide)))
            have f61 := f54.other W59 pne_a2_a1
            have zz59 : n0 ≤ h59.size := Nat.le_trans zz52 (Nat.le_of_eq W59.size.symm)
            have N62 := Fr.snoc X59 N55 pg_a1
            have K63 : Keep h0 h59 [a1] := K56.wr W59 (Or.inl (List.mem_of_getElem? (i := 0) rfl))
            refine o_baload X59 hx hZ e59 f61 ((pre.length + 4)) (o_tn (by omega)) (o_rg (by omega)) (v := (.int (o_lb (o_sh (o_sh (o_sh (o_sh (o_zz p0)))))))) (o_nth pre post [(o_mb (o_zz p0)), (o_mb (o_sh (o_zz p0))), (o_mb (o_sh (o_sh (o_zz p0)))), (o_mb (o_sh (o_sh (o_sh (o_zz p0)))))] _ _ _ 4 rfl hn4) (hb hby d_prog_78_method_4_code_19) (n := 20) rfl ?_
            refine o_istore X59 hx (hb hby d_prog_78_method_4_code_20) (Ls' := #[.val (.ref a1), .val (.long r_3), .second, .val (.int (28 : Int32)), .val (.int (o_lb (o_sh (o_sh (o_sh (o_sh (o_zz p0)))))))]) rfl (n := 22) rfl ?_
            refine o_lloadN X59 hx (hb hby d_prog_78_method_4_code_22) (v := r_3) rfl (n := 23) rfl ?_
            refine o_iload X59 hx (hb hby d_prog_78_method_4_code_23) (v := (o_lb (o_sh (o_sh (o_sh (o_sh (o_zz p0))))))) rfl (n := 25) rfl ?_
            refine o_i2l X59 hx (hb hby d_prog_78_method_4_code_25) (v := (o_lb (o_sh (o_sh (o_sh (o_sh (o_zz p0)))))).toInt64) rfl (n := 26) rfl ?_
            refine o_ldc2_w X59 hx hZ (v := (127 : Int64)) hown (hw _ (List.mem_of_getElem? (i := 54) rfl)) (hb hby d_prog_78_method_4_code_26) (n := 29) rfl ?_
            refine o_land X59 hx (hb hby d_prog_78_method_4_code_29) (v := ((o_lb (o_sh (o_sh (o_sh (o_sh (o_zz p0)))))).toInt64 &&& (127 : Int64))) rfl (n := 30) rfl ?_
            refine o_iloadN X59 hx (hb hby d_prog_78_method_4_code_30) (v := (28 : Int32)) rfl (n := 31) rfl ?_
            refine o_lshl X59 hx (hb hby d_prog_78_method_4_code_31) (v := (((o_lb (o_sh (o_sh (o_sh (o_sh (o_zz p0)))))).toInt64 &&& (127 : Int64)) <<< (28 : Int64))) (congrArg (fun q : Int64 => ((o_lb (o_sh (o_sh (o_sh (o_sh (o_zz p0)))))).toInt64 &&& (127 : Int64)) <<< q) (show ((28 : Int32) &&& 0x3f).toInt64 = 28 by decide)) (n := 32) rfl ?_
            refine o_lor X59 hx (hb hby d_prog_78_method_4_code_32) (v := (r_3 ||| (((o_lb (o_sh (o_sh (o_sh (o_sh (o_zz p0)))))).toInt64 &&& (127 : Int64)) <<< (28 : Int64)))) rfl (n := 33) rfl ?_
            refine o_lstoreN X59 hx (hb hby d_prog_78_method_4_code_33) (Ls' := #[.val (.ref a1), .val (.long (r_3 ||| (((o_lb (o_sh (o_sh (o_sh (o_sh (o_zz p0)))))).toInt64 &&& (127 : Int64)) <<< (28 : Int64)))), .second, .val (.int (28 : Int32)), .val (.int (o_lb (o_sh (o_sh (o_sh (o_sh (o_zz p0)))))))]) rfl (n := 34) rfl ?_
            generalize h_r_4 : (r_3 ||| (((o_lb (o_sh (o_sh (o_sh (o_sh (o_zz p0)))))).toInt64 &&& (127 : Int64)) <<< (28 : Int64))) = r_4
            have hf : r_4 = (o_zz p0) := o_fin_4 (o_zz p0) hr4 hz4 h_r_4
            refine o_iinc X59 hx (hb hby d_prog_78_method_4_code_34) (w := (35 : Int32)) rfl (by decide) (Ls' := #[.val (.ref a1), .val (.long r_4), .second, .val (.int (35 : Int32)), .val (.int (o_lb (o_sh (o_sh (o_sh (o_sh (o_zz p0)))))))]) rfl (n := 37) rfl ?_
            refine o_iload X59 hx (hb hby d_prog_78_method_4_code_37) (v := (o_lb (o_sh (o_sh (o_sh (o_sh (o_zz p0))))))) rfl (n := 39) rfl ?_
            refine o_sipush X59 hx (hb hby d_prog_78_method_4_code_39) (v := (128 : Int32)) rfl (n := 42) rfl ?_
            refine o_iand X59 hx (hb hby d_prog_78_method_4_code_42) (v := ((o_lb (o_sh (o_sh (o_sh (o_sh (o_zz p0)))))) &&& (128 : Int32))) rfl (n := 43) rfl ?_
            refine o_ifN X59 hx (hb hby d_prog_78_method_4_code_43) (XT.i0_ne_f (o_lb128 hz4)) (n := 46) rfl ?_
            refine o_lloadN X59 hx (hb hby d_prog_78_method_4_code_46) (v := r_4) rfl (n := 47) rfl ?_
            refine o_iconst X59 hx (hb hby d_prog_78_method_4_code_47) (v := (1 : Int32)) rfl (n := 48) rfl ?_
            refine o_lushr X59 hx (hb hby d_prog_78_method_4_code_48) (v := (r_4.toUInt64 >>> (1 : UInt64)).toInt64) (congrArg (fun q : UInt64 => (r_4.toUInt64 >>> q).toInt64) (show ((1 : Int32) &&& 0x3f).toInt64.toUInt64 = 1 by decide)) (n := 49) rfl ?_
            refine o_lloadN X59 hx (hb hby d_prog_78_method_4_code_49) (v := r_4) rfl (n := 50) rfl ?_
            refine o_lconst X59 hx (hb hby d_prog_78_method_4_code_50) (v := (1 : Int64)) rfl (n := 51) rfl ?_
            refine o_land X59 hx (hb hby d_prog_78_method_4_code_51) (v := (r_4 &&& (1 : Int64))) rfl (n := 52) rfl ?_
            refine o_lneg X59 hx (hb hby d_prog_78_method_4_code_52) (v := (-(r_4 &&& (1 : Int64)))) rfl (n := 53) rfl ?_
            refine o_lxor X59 hx (hb hby d_prog_78_method_4_code_53) (v := (o_un r_4)) rfl (n := 54) rfl ?_
            have fP : Fld Z h59 a1 "com/example/estim365/estim365/formats/BytesIn" "position" "I" (.int (Int32.ofNat (pre.length + (o_enc 9 (o_zz p0)).length))) := by rw [hE]; exact F59
            exact o_lreturn X59 hx hret hlk (hb hby d_prog_78_method_4_code_54) (by decide) (by decide) e59 ⟨(by rw [hf, o_unzz]), N62, K63, E_59, f60, fP⟩
          · have hn4 : o_enc 9 (o_zz p0) = [(o_mb (o_zz p0)), (o_mb (o_sh (o_zz p0))), (o_mb (o_sh (o_sh (o_zz p0)))), (o_mb (o_sh (o_sh (o_sh (o_zz p0)))))] ++ (o_mb (o_sh (o_sh (o_sh (o_sh (o_zz p0)))))) :: o_enc 4 (o_sh (o_sh (o_sh (o_sh (o_sh (o_zz p0)))))) := by simp [o_enc, hz0, hz1, hz2, hz3, hz4]
            refine o_aloadN X52 hx (hb hby d_prog_78_method_4_code_4) (v := (.ref a1)) rfl rfl (n := 5) rfl ?_
            refine o_getfield X52 hx hZ hown (host := "") (Or.inl (hw _ (List.mem_of_getElem? (i := 45) rfl))) Via.refl e52 f53 (hb hby d_prog_78_method_4_code_5) (n := 8) rfl ?_
            intro T64 X64 e64
            refine o_aloadN X64 hx (hb hby d_prog_78_method_4_code_8) (v := (.ref a1)) rfl rfl (n := 9) rfl ?_
            refine o_dup X64 hx (hb hby d_prog_78_method_4_code_9) rfl (n := 10) rfl ?_
            refine o_getfield X64 hx hZ hown (host := "") (Or.inl (hw _ (List.mem_of_getElem? (i := 47) rfl))) Via.refl e64 F52 (hb hby d_prog_78_method_4_code_10) (n := 13) rfl ?_
            intro T65 X65 e65
            refine o_dup_x1 X65 hx (hb hby d_prog_78_method_4_code_13) rfl rfl (n := 14) rfl ?_
            refine o_iconst X65 hx (hb hby d_prog_78_method_4_code_14) (v := (1 : Int32)) rfl (n := 15) rfl ?_
            refine o_iadd X65 hx (hb hby d_prog_78_method_4_code_15) (v := (Int32.ofNat (pre.length + 5))) (o_suc _) (n := 16) rfl ?_
            refine o_putfield X65 hx hZ hown (host := "") (Or.inl (hw _ (List.mem_of_getElem? (i := 47) rfl))) Via.refl e65 F52 E_52 (Or.inl (hw _ (List.mem_of_getElem? (i := 48) rfl))) (hw _ (List.mem_of_getElem? (i := 39) rfl)) (ty := .int) (by decide) rfl rfl (hb hby d_prog_78_method_4_code_16) (n := 19) rfl ?_
            intro T66 h66 X66 e66 W66 F66 E_66
            have f67 := f53.other W66 (Or.inr (slot_ne (Or.inr (hw _ (List.mem_of_getElem? (i := 46) rfl))) (Or.inl (hw _ (List.mem_of_getElem? (i := 48) rfl))) (by decide) (t := (.array .byte)) (t' := .int) (by decide) (by decide)))
            have f68 := f54.other W66 pne_a2_a1
            have zz66 : n0 ≤ h66.size := Nat.le_trans zz52 (Nat.le_of_eq W66.size.symm)
            have N69 := Fr.snoc X66 N55 pg_a1
            have K70 : Keep h0 h66 [a1] := K56.wr W66 (Or.inl (List.mem_of_getElem? (i := 0) rfl))
            refine o_baload X66 hx hZ e66 f68 ((pre.length + 4)) (o_tn (by omega)) (o_rg (by omega)) (v := (.int (o_mb (o_sh (o_sh (o_sh (o_sh (o_zz p0)))))))) (o_nth pre post [(o_mb (o_zz p0)), (o_mb (o_sh (o_zz p0))), (o_mb (o_sh (o_sh (o_zz p0)))), (o_mb (o_sh (o_sh (o_sh (o_zz p0)))))] _ _ _ 4 rfl hn4) (hb hby d_prog_78_method_4_code_19) (n := 20) rfl ?_
            refine o_istore X66 hx (hb hby d_prog_78_method_4_code_20) (Ls' := #[.val (.ref a1), .val (.long r_3), .second, .val (.int (28 : Int32)), .val (.int (o_mb (o_sh (o_sh (o_sh (o_sh (o_zz p0)))))))]) rfl (n := 22) rfl ?_
            refine o_lloadN X66 hx (hb hby d_prog_78_method_4_code_22) (v := r_3) rfl (n := 23) rfl ?_
            refine o_iload X66 hx (hb hby d_prog_78_method_4_code_23) (v := (o_mb (o_sh (o_sh (o_sh (o_sh (o_zz p0))))))) rfl (n := 25) rfl ?_
            refine o_i2l X66 hx (hb hby d_prog_78_method_4_code_25) (v := (o_mb (o_sh (o_sh (o_sh (o_sh (o_zz p0)))))).toInt64) rfl (n := 26) rfl ?_
            refine o_ldc2_w X66 hx hZ (v := (127 : Int64)) hown (hw _ (List.mem_of_getElem? (i := 54) rfl)) (hb hby d_prog_78_method_4_code_26) (n := 29) rfl ?_
            refine o_land X66 hx (hb hby d_prog_78_method_4_code_29) (v := ((o_mb (o_sh (o_sh (o_sh (o_sh (o_zz p0)))))).toInt64 &&& (127 : Int64))) rfl (n := 30) rfl ?_
            refine o_iloadN X66 hx (hb hby d_prog_78_method_4_code_30) (v := (28 : Int32)) rfl (n := 31) rfl ?_
            refine o_lshl X66 hx (hb hby d_prog_78_method_4_code_31) (v := (((o_mb (o_sh (o_sh (o_sh (o_sh (o_zz p0)))))).toInt64 &&& (127 : Int64)) <<< (28 : Int64))) (congrArg (fun q : Int64 => ((o_mb (o_sh (o_sh (o_sh (o_sh (o_zz p0)))))).toInt64 &&& (127 : Int64)) <<< q) (show ((28 : Int32) &&& 0x3f).toInt64 = 28 by decide)) (n := 32) rfl ?_
            refine o_lor X66 hx (hb hby d_prog_78_method_4_code_32) (v := (r_3 ||| (((o_mb (o_sh (o_sh (o_sh (o_sh (o_zz p0)))))).toInt64 &&& (127 : Int64)) <<< (28 : Int64)))) rfl (n := 33) rfl ?_
            refine o_lstoreN X66 hx (hb hby d_prog_78_method_4_code_33) (Ls' := #[.val (.ref a1), .val (.long (r_3 ||| (((o_mb (o_sh (o_sh (o_sh (o_sh (o_zz p0)))))).toInt64 &&& (127 : Int64)) <<< (28 : Int64)))), .second, .val (.int (28 : Int32)), .val (.int (o_mb (o_sh (o_sh (o_sh (o_sh (o_zz p0)))))))]) rfl (n := 34) rfl ?_
            generalize h_r_4 : (r_3 ||| (((o_mb (o_sh (o_sh (o_sh (o_sh (o_zz p0)))))).toInt64 &&& (127 : Int64)) <<< (28 : Int64))) = r_4
            have hr5 := o_acc_4 (o_zz p0) hr4 h_r_4
            refine o_iinc X66 hx (hb hby d_prog_78_method_4_code_34) (w := (35 : Int32)) rfl (by decide) (Ls' := #[.val (.ref a1), .val (.long r_4), .second, .val (.int (35 : Int32)), .val (.int (o_mb (o_sh (o_sh (o_sh (o_sh (o_zz p0)))))))]) rfl (n := 37) rfl ?_
            refine o_iload X66 hx (hb hby d_prog_78_method_4_code_37) (v := (o_mb (o_sh (o_sh (o_sh (o_sh (o_zz p0))))))) rfl (n := 39) rfl ?_
            refine o_sipush X66 hx (hb hby d_prog_78_method_4_code_39) (v := (128 : Int32)) rfl (n := 42) rfl ?_
            refine o_iand X66 hx (hb hby d_prog_78_method_4_code_42) (v := ((o_mb (o_sh (o_sh (o_sh (o_sh (o_zz p0)))))) &&& (128 : Int32))) rfl (n := 43) rfl ?_
            refine o_ifY X66 hx (hb hby d_prog_78_method_4_code_43) (XT.i0_ne_t (o_mb128 _)) (by decide) (n := 4) (by decide) ?_
            by_cases hz5 : (o_sh (o_sh (o_sh (o_sh (o_sh (o_zz p0)))))) &&& (-128 : Int64) = 0
            · have hE : o_enc 9 (o_zz p0) = [(o_mb (o_zz p0)), (o_mb (o_sh (o_zz p0))), (o_mb (o_sh (o_sh (o_zz p0)))), (o_mb (o_sh (o_sh (o_sh (o_zz p0))))), (o_mb (o_sh (o_sh (o_sh (o_sh (o_zz p0)))))), (o_lb (o_sh (o_sh (o_sh (o_sh (o_sh (o_zz p0)))))))] := by simp [o_enc, hz0, hz1, hz2, hz3, hz4, hz5]
              have hn5 : o_enc 9 (o_zz p0) = [(o_mb (o_zz p0)), (o_mb (o_sh (o_zz p0))), (o_mb (o_sh (o_sh (o_zz p0)))), (o_mb (o_sh (o_sh (o_sh (o_zz p0))))), (o_mb (o_sh (o_sh (o_sh (o_sh (o_zz p0))))))] ++ (o_lb (o_sh (o_sh (o_sh (o_sh (o_sh (o_zz p0))))))) :: [] := by simp [o_enc, hz0, hz1, hz2, hz3, hz4, hz5]
              refine o_aloadN X66 hx (hb hby d_prog_78_method_4_code_4) (v := (.ref a1)) rfl rfl (n := 5) rfl ?_
              refine o_getfield X66 hx hZ hown (host := "") (Or.inl (hw _ (List.mem_of_getElem? (i := 45) rfl))) Via.refl e66 f67 (hb hby d_prog_78_method_4_code_5) (n := 8) rfl ?_
              intro T71 X71 e71
              refine o_aloadN X71 hx (hb hby d_prog_78_method_4_code_8) (v := (.ref a1)) rfl rfl (n := 9) rfl ?_
              refine o_dup X71 hx (hb hby d_prog_78_method_4_code_9) rfl (n := 10) rfl ?_
              refine o_getfield X71 hx hZ hown (host := "") (Or.inl (hw _ (List.mem_of_getElem? (i := 47) rfl))) Via.refl e71 F66 (hb hby d_prog_78_method_4_code_10) (n := 13) rfl ?_
              intro T72 X72 e72
              refine o_dup_x1 X72 hx (hb hby d_prog_78_method_4_code_13) rfl rfl (n := 14) rfl ?_
              refine o_iconst X72 hx (hb hby d_prog_78_method_4_code_14) (v := (1 : Int32)) rfl (n := 15) rfl ?_
              refine o_iadd X72 hx (hb hby d_prog_78_method_4_code_15) (v := (Int32.ofNat (pre.length + 6))) (o_suc _) (n := 16) rfl ?_
              refine o_putfield X72 hx hZ hown (host := "") (Or.inl (hw _ (List.mem_of_getElem? (i := 47) rfl))) Via.refl e72 F66 E_66 (Or.inl (hw _ (List.mem_of_getElem? (i := 48) rfl))) (hw _ (List.mem_of_getElem? (i := 39) rfl)) (ty := .int) (by decide) rfl rfl (hb hby d_prog_78_method_4_code_16) (n := 19) rfl ?_
              intro T73 h73 X73 e73 W73 F73 E_73
              have f74 := f67.other W73 (Or.inr (slot_ne (Or.inr (hw _ (List.mem_of_getElem? (i := 46) rfl))) (Or.inl (hw _ (List.mem_of_getElem? (i := 48) rfl))) (by decide) (t := (.array .byte)) (t' := .int) (by decide) (by decide)))
              have f75 := f68.other W73 pne_a2_a1
              have zz73 : n0 ≤ h73.size := Nat.le_trans zz66 (Nat.le_of_eq W73.size.symm)
              have N76 := Fr.snoc X73 N69 pg_a1
              have K77 : Keep h0 h73 [a1] := K70.wr W73 (Or.inl (List.mem_of_getElem? (i := 0) rfl))
              refine o_baload X73 hx hZ e73 f75 ((pre.length + 5)) (o_tn (by omega)) (o_rg (by omega)) (v := (.int (o_lb (o_sh (o_sh (o_sh (o_sh (o_sh (o_zz p0))))))))) (o_nth pre post [(o_mb (o_zz p0)), (o_mb (o_sh (o_zz p0))), (o_mb (o_sh (o_sh (o_zz p0)))), (o_mb (o_sh (o_sh (o_sh (o_zz p0))))), (o_mb (o_sh (o_sh (o_sh (o_sh (o_zz p0))))))] _ _ _ 5 rfl hn5) (hb hby d_prog_78_method_4_code_19) (n := 20) rfl ?_
              refine o_istore X73 hx (hb hby d_prog_78_method_4_code_20) (Ls' := #[.val (.ref a1), .val (.long r_4), .second, .val (.int (35 : Int32)), .val (.int (o_lb (o_sh (o_sh (o_sh (o_sh (o_sh (o_zz p0))))))))]) rfl (n := 22) rfl ?_
              refine o_lloadN X73 hx (hb hby d_prog_78_method_4_code_22) (v := r_4) rfl (n := 23) rfl ?_
              refine o_iload X73 hx (hb hby d_prog_78_method_4_code_23) (v := (o_lb (o_sh (o_sh (o_sh (o_sh (o_sh (o_zz p0)))))))) rfl (n := 25) rfl ?_
              refine o_i2l X73 hx (hb hby d_prog_78_method_4_code_25) (v := (o_lb (o_sh (o_sh (o_sh (o_sh (o_sh (o_zz p0))))))).toInt64) rfl (n := 26) rfl ?_
              refine o_ldc2_w X73 hx hZ (v := (127 : Int64)) hown (hw _ (List.mem_of_getElem? (i := 54) rfl)) (hb hby d_prog_78_method_4_code_26) (n := 29) rfl ?_
              refine o_land X73 hx (hb hby d_prog_78_method_4_code_29) (v := ((o_lb (o_sh (o_sh (o_sh (o_sh (o_sh (o_zz p0))))))).toInt64 &&& (127 : Int64))) rfl (n := 30) rfl ?_
              refine o_iloadN X73 hx (hb hby d_prog_78_method_4_code_30) (v := (35 : Int32)) rfl (n := 31) rfl ?_
              refine o_lshl X73 hx (hb hby d_prog_78_method_4_code_31) (v := (((o_lb (o_sh (o_sh (o_sh (o_sh (o_sh (o_zz p0))))))).toInt64 &&& (127 : Int64)) <<< (35 : Int64))) (congrArg (fun q : Int64 => ((o_lb (o_sh (o_sh (o_sh (o_sh (o_sh (o_zz p0))))))).toInt64 &&& (127 : Int64)) <<< q) (show ((35 : Int32) &&& 0x3f).toInt64 = 35 by decide)) (n := 32) rfl ?_
              refine o_lor X73 hx (hb hby d_prog_78_method_4_code_32) (v := (r_4 ||| (((o_lb (o_sh (o_sh (o_sh (o_sh (o_sh (o_zz p0))))))).toInt64 &&& (127 : Int64)) <<< (35 : Int64)))) rfl (n := 33) rfl ?_
              refine o_lstoreN X73 hx (hb hby d_prog_78_method_4_code_33) (Ls' := #[.val (.ref a1), .val (.long (r_4 ||| (((o_lb (o_sh (o_sh (o_sh (o_sh (o_sh (o_zz p0))))))).toInt64 &&& (127 : Int64)) <<< (35 : Int64)))), .second, .val (.int (35 : Int32)), .val (.int (o_lb (o_sh (o_sh (o_sh (o_sh (o_sh (o_zz p0))))))))]) rfl (n := 34) rfl ?_
              generalize h_r_5 : (r_4 ||| (((o_lb (o_sh (o_sh (o_sh (o_sh (o_sh (o_zz p0))))))).toInt64 &&& (127 : Int64)) <<< (35 : Int64))) = r_5
              have hf : r_5 = (o_zz p0) := o_fin_5 (o_zz p0) hr5 hz5 h_r_5
              refine o_iinc X73 hx (hb hby d_prog_78_method_4_code_34) (w := (42 : Int32)) rfl (by decide) (Ls' := #[.val (.ref a1), .val (.long r_5), .second, .val (.int (42 : Int32)), .val (.int (o_lb (o_sh (o_sh (o_sh (o_sh (o_sh (o_zz p0))))))))]) rfl (n := 37) rfl ?_
              refine o_iload X73 hx (hb hby d_prog_78_method_4_code_37) (v := (o_lb (o_sh (o_sh (o_sh (o_sh (o_sh (o_zz p0)))))))) rfl (n := 39) rfl ?_
              refine o_sipush X73 hx (hb hby d_prog_78_method_4_code_39) (v := (128 : Int32)) rfl (n := 42) rfl ?_
              refine o_iand X73 hx (hb hby d_prog_78_method_4_code_42) (v := ((o_lb (o_sh (o_sh (o_sh (o_sh (o_sh (o_zz p0))))))) &&& (128 : Int32))) rfl (n := 43) rfl ?_
              refine o_ifN X73 hx (hb hby d_prog_78_method_4_code_43) (XT.i0_ne_f (o_lb128 hz5)) (n := 46) rfl ?_
              refine o_lloadN X73 hx (hb hby d_prog_78_method_4_code_46) (v := r_5) rfl (n := 47) rfl ?_
              refine o_iconst X73 hx (hb hby d_prog_78_method_4_code_47) (v := (1 : Int32)) rfl (n := 48) rfl ?_
              refine o_lushr X73 hx (hb hby d_prog_78_method_4_code_48) (v := (r_5.toUInt64 >>> (1 : UInt64)).toInt64) (congrArg (fun q : UInt64 => (r_5.toUInt64 >>> q).toInt64) (show ((1 : Int32) &&& 0x3f).toInt64.toUInt64 = 1 by decide)) (n := 49) rfl ?_
              refine o_lloadN X73 hx (hb hby d_prog_78_method_4_code_49) (v := r_5) rfl (n := 50) rfl ?_
              refine o_lconst X73 hx (hb hby d_prog_78_method_4_code_50) (v := (1 : Int64)) rfl (n := 51) rfl ?_
              refine o_land X73 hx (hb hby d_prog_78_method_4_code_51) (v := (r_5 &&& (1 : Int64))) rfl (n := 52) rfl ?_
              refine o_lneg X73 hx (hb hby d_prog_78_method_4_code_52) (v := (-(r_5 &&& (1 : Int64)))) rfl (n := 53) rfl ?_
              refine o_lxor X73 hx (hb hby d_prog_78_method_4_code_53) (v := (o_un r_5)) rfl (n := 54) rfl ?_
              have fP : Fld Z h73 a1 "com/example/estim365/estim365/formats/BytesIn" "position" "I" (.int (Int32.ofNat (pre.length + (o_enc 9 (o_zz p0)).length))) := by rw [hE]; exact F73
              exact o_lreturn X73 hx hret hlk (hb hby d_prog_78_method_4_code_54) (by decide) (by decide) e73 ⟨(by rw [hf, o_unzz]), N76, K77, E_73, f74, fP⟩
            · have hn5 : o_enc 9 (o_zz p0) = [(o_mb (o_zz p0)), (o_mb (o_sh (o_zz p0))), (o_mb (o_sh (o_sh (o_zz p0)))), (o_mb (o_sh (o_sh (o_sh (o_zz p0))))), (o_mb (o_sh (o_sh (o_sh (o_sh (o_zz p0))))))] ++ (o_mb (o_sh (o_sh (o_sh (o_sh (o_sh (o_zz p0))))))) :: o_enc 3 (o_sh (o_sh (o_sh (o_sh (o_sh (o_sh (o_zz p0))))))) := by simp [o_enc, hz0, hz1, hz2, hz3, hz4, hz5]
              refine o_aloadN X66 hx (hb hby d_prog_78_method_4_code_4) (v := (.ref a1)) rfl rfl (n := 5) rfl ?_
              refine o_getfield X66 hx hZ hown (host := "") (Or.inl (hw _ (List.mem_of_getElem? (i := 45) rfl))) Via.refl e66 f67 (hb hby d_prog_78_method_4_code_5) (n := 8) rfl ?_
              intro T78 X78 e78
              refine o_aloadN X78 hx (hb hby d_prog_78_method_4_code_8) (v := (.ref a1)) rfl rfl (n := 9) rfl ?_
              refine o_dup X78 hx (hb hby d_prog_78_method_4_code_9) rfl (n := 10) rfl ?_
              refine o_getfield X78 hx hZ hown (host := "") (Or.inl (hw _ (List.mem_of_getElem? (i := 47) rfl))) Via.refl e78 F66 (hb hby d_prog_78_method_4_code_10) (n := 13) rfl ?_
              intro T79 X79 e79
              refine o_dup_x1 X79 hx (hb hby d_prog_78_method_4_code_13) rfl rfl (n := 14) rfl ?_
              refine o_iconst X79 hx (hb hby d_prog_78_method_4_code_14) (v := (1 : Int32)) rfl (n := 15) rfl ?_
              refine o_iadd X79 hx (hb hby d_prog_78_method_4_code_15) (v := (Int32.ofNat (pre.length + 6))) (o_suc _) (n := 16) rfl ?_
              refine o_putfield X79 hx hZ hown (host := "") (Or.inl (hw _ (List.mem_of_getElem? (i := 47) rfl))) Via.refl e79 F66 E_66 (Or.inl (hw _ (List.mem_of_getElem? (i := 48) rfl))) (hw _ (List.mem_of_getElem? (i := 39) rfl)) (ty := .int) (by decide) rfl rfl (hb hby d_prog_78_method_4_code_16) (n := 19) rfl ?_
              intro T80 h80 X80 e80 W80 F80 E_80
              have f81 := f67.other W80 (Or.inr (slot_ne (Or.inr (hw _ (List.mem_of_getElem? (i := 46) rfl))) (Or.inl (hw _ (List.mem_of_getElem? (i := 48) rfl))) (by decide) (t := (.array .byte)) (t' := .int) (by decide) (by decide)))
              have f82 := f68.other W80 pne_a2_a1
              have zz80 : n0 ≤ h80.size := Nat.le_trans zz66 (Nat.le_of_eq W80.size.symm)
              have N83 := Fr.snoc X80 N69 pg_a1
              have K84 : Keep h0 h80 [a1] := K70.wr W80 (Or.inl (List.mem_of_getElem? (i := 0) rfl))
              refine o_baload X80 hx hZ e80 f82 ((pre.length + 5)) (o_tn (by omega)) (o_rg (by omega)) (v := (.int (o_mb (o_sh (o_sh (o_sh (o_sh (o_sh (o_zz p0))))))))) (o_nth pre post [(o_mb (o_zz p0)), (o_mb (o_sh (o_zz p0))), (o_mb (o_sh (o_sh (o_zz p0)))), (o_mb (o_sh (o_sh (o_sh (o_zz p0))))), (o_mb (o_sh (o_sh (o_sh (o_sh (o_zz p0))))))] _ _ _ 5 rfl hn5) (hb hby d_prog_78_method_4_code_19) (n := 20) rfl ?_
              refine o_istore X80 hx (hb hby d_prog_78_method_4_code_20) (Ls' := #[.val (.ref a1), .val (.long r_4), .second, .val (.int (35 : Int32)), .val (.int (o_mb (o_sh (o_sh (o_sh (o_sh (o_sh (o_zz p0))))))))]) rfl (n := 22) rfl ?_
              refine o_lloadN X80 hx (hb hby d_prog_78_method_4_code_22) (v := r_4) rfl (n := 23) rfl ?_
              refine o_iload X80 hx (hb hby d_prog_78_method_4_code_23) (v := (o_mb (o_sh (o_sh (o_sh (o_sh (o_sh (o_zz p0)))))))) rfl (n := 25) rfl ?_
              refine o_i2l X80 hx (hb hby d_prog_78_method_4_code_25) (v := (o_mb (o_sh (o_sh (o_sh (o_sh (o_sh (o_zz p0))))))).toInt64) rfl (n := 26) rfl ?_
              refine o_ldc2_w X80 hx hZ (v := (127 : Int64)) hown (hw _ (List.mem_of_getElem? (i := 54) rfl)) (hb hby d_prog_78_method_4_code_26) (n := 29) rfl ?_
              refine o_land X80 hx (hb hby d_prog_78_method_4_code_29) (v := ((o_mb (o_sh (o_sh (o_sh (o_sh (o_sh (o_zz p0))))))).toInt64 &&& (127 : Int64))) rfl (n := 30) rfl ?_
              refine o_iloadN X80 hx (hb hby d_prog_78_method_4_code_30) (v := (35 : Int32)) rfl (n := 31) rfl ?_
              refine o_lshl X80 hx (hb hby d_prog_78_method_4_code_31) (v := (((o_mb (o_sh (o_sh (o_sh (o_sh (o_sh (o_zz p0))))))).toInt64 &&& (127 : Int64)) <<< (35 : Int64))) (congrArg (fun q : Int64 => ((o_mb (o_sh (o_sh (o_sh (o_sh (o_sh (o_zz p0))))))).toInt64 &&& (127 : Int64)) <<< q) (show ((35 : Int32) &&& 0x3f).toInt64 = 35 by decide)) (n := 32) rfl ?_
              refine o_lor X80 hx (hb hby d_prog_78_method_4_code_32) (v := (r_4 ||| (((o_mb (o_sh (o_sh (o_sh (o_sh (o_sh (o_zz p0))))))).toInt64 &&& (127 : Int64)) <<< (35 : Int64)))) rfl (n := 33) rfl ?_
              refine o_lstoreN X80 hx (hb hby d_prog_78_method_4_code_33) (Ls' := #[.val (.ref a1), .val (.long (r_4 ||| (((o_mb (o_sh (o_sh (o_sh (o_sh (o_sh (o_zz p0))))))).toInt64 &&& (127 : Int64)) <<< (35 : Int64)))), .second, .val (.int (35 : Int32)), .val (.int (o_mb (o_sh (o_sh (o_sh (o_sh (o_sh (o_zz p0))))))))]) rfl (n := 34) rfl ?_
              generalize h_r_5 : (r_4 ||| (((o_mb (o_sh (o_sh (o_sh (o_sh (o_sh (o_zz p0))))))).toInt64 &&& (127 : Int64)) <<< (35 : Int64))) = r_5
              have hr6 := o_acc_5 (o_zz p0) hr5 h_r_5
              refine o_iinc X80 hx (hb hby d_prog_78_method_4_code_34) (w := (42 : Int32)) rfl (by decide) (Ls' := #[.val (.ref a1), .val (.long r_5), .second, .val (.int (42 : Int32)), .val (.int (o_mb (o_sh (o_sh (o_sh (o_sh (o_sh (o_zz p0))))))))]) rfl (n := 37) rfl ?_
              refine o_iload X80 hx (hb hby d_prog_78_method_4_code_37) (v := (o_mb (o_sh (o_sh (o_sh (o_sh (o_sh (o_zz p0)))))))) rfl (n := 39) rfl ?_
              refine o_sipush X80 hx (hb hby d_prog_78_method_4_code_39) (v := (128 : Int32)) rfl (n := 42) rfl ?_
              refine o_iand X80 hx (hb hby d_prog_78_method_4_code_42) (v := ((o_mb (o_sh (o_sh (o_sh (o_sh (o_sh (o_zz p0))))))) &&& (128 : Int32))) rfl (n := 43) rfl ?_
              refine o_ifY X80 hx (hb hby d_prog_78_method_4_code_43) (XT.i0_ne_t (o_mb128 _)) (by decide) (n := 4) (by decide) ?_
              by_cases hz6 : (o_sh (o_sh (o_sh (o_sh (o_sh (o_sh (o_zz p0))))))) &&& (-128 : Int64) = 0
              · have hE : o_enc 9 (o_zz p0) = [(o_mb (o_zz p0)), (o_mb (o_sh (o_zz p0))), (o_mb (o_sh (o_sh (o_zz p0)))), (o_mb (o_sh (o_sh (o_sh (o_zz p0))))), (o_mb (o_sh (o_sh (o_sh (o_sh (o_zz p0)))))), (o_mb (o_sh (o_sh (o_sh (o_sh (o_sh (o_zz p0))))))), (o_lb (o_sh (o_sh (o_sh (o_sh (o_sh (o_sh (o_zz p0))))))))] := by simp [o_enc, hz0, hz1, hz2, hz3, hz4, hz5, hz6]
                have hn6 : o_enc 9 (o_zz p0) = [(o_mb (o_zz p0)), (o_mb (o_sh (o_zz p0))), (o_mb (o_sh (o_sh (o_zz p0)))), (o_mb (o_sh (o_sh (o_sh (o_zz p0))))), (o_mb (o_sh (o_sh (o_sh (o_sh (o_zz p0)))))), (o_mb (o_sh (o_sh (o_sh (o_sh (o_sh (o_zz p0)))))))] ++ (o_lb (o_sh (o_sh (o_sh (o_sh (o_sh (o_sh (o_zz p0)))))))) :: [] := by simp [o_enc, hz0, hz1, hz2, hz3, hz4, hz5, hz6]
                refine o_aloadN X80 hx (hb hby d_prog_78_method_4_code_4) (v := (.ref a1)) rfl rfl (n := 5) rfl ?_
                refine o_getfield X80 hx hZ hown (host := "") (Or.inl (hw _ (List.mem_of_getElem? (i := 45) rfl))) Via.refl e80 f81 (hb hby d_prog_78_method_4_code_5) (n := 8) rfl ?_
                intro T85 X85 e85
                refine o_aloadN X85 hx (hb hby d_prog_78_method_4_code_8) (v := (.ref a1)) rfl rfl (n := 9) rfl ?_
                refine o_dup X85 hx (hb hby d_prog_78_method_4_code_9) rfl (n := 10) rfl ?_
                refine o_getfield X85 hx hZ hown (host := "") (Or.inl (hw _ (List.mem_of_getElem? (i := 47) rfl))) Via.refl e85 F80 (hb hby d_prog_78_method_4_code_10) (n := 13) rfl ?_
                intro T86 X86 e86
                refine o_dup_x1 X86 hx (hb hby d_prog_78_method_4_code_13) rfl rfl (n := 14) rfl ?_
                refine o_iconst X86 hx (hb hby d_prog_78_method_4_code_14) (v := (1 : Int32)) rfl (n := 15) rfl ?_
                refine o_iadd X86 hx (hb hby d_prog_78_method_4_code_15) (v := (Int32.ofNat (pre.length + 7))) (o_suc _) (n := 16) rfl ?_
                refine o_putfield X86 hx hZ hown (host := "") (Or.inl (hw _ (List.mem_of_getElem? (i := 47) rfl))) Via.refl e86 F80 E_80 (Or.inl (hw _ (List.mem_of_getElem? (i := 48) rfl))) (hw _ (List.mem_of_getElem? (i := 39) rfl)) (ty := .int) (by decide) rfl rfl (hb hby d_prog_78_method_4_code_16) (n := 19) rfl ?_
                intro T87 h87 X87 e87 W87 F87 E_87
                have f88 := f81.other W87 (Or.inr (slot_ne (Or.inr (hw _ (List.mem_of_getElem? (i := 46) rfl))) (Or.inl (hw _ (List.mem_of_getElem? (i := 48) rfl))) (by decide) (t := (.array .byte)) (t' := .int) (by decide) (by decide)))
                have f89 := f82.other W87 pne_a2_a1
                have zz87 : n0 ≤ h87.size := Nat.le_trans zz80 (Nat.le_of_eq W87.size.symm)
                have N90 := Fr.snoc X87 N83 pg_a1
                have K91 : Keep h0 h87 [a1] := K84.wr W87 (Or.inl (List.mem_of_getElem? (i := 0) rfl))
                refine o_baload X87 hx hZ e87 f89 ((pre.length + 6)) (o_tn (by omega)) (o_rg (by omega)) (v := (.int (o_lb (o_sh (o_sh (o_sh (o_sh (o_sh (o_sh (o_zz p0)))))))))) (o_nth pre post [(o_mb (o_zz p0)), (o_mb (o_sh (o_zz p0))), (o_mb (o_sh (o_sh (o_zz p0)))), (o_mb (o_sh (o_sh (o_sh (o_zz p0))))), (o_mb (o_sh (o_sh (o_sh (o_sh (o_zz p0)))))), (o_mb (o_sh (o_sh (o_sh (o_sh (o_sh (o_zz p0)))))))] _ _ _ 6 rfl hn6) (hb hby d_prog_78_method_4_code_19) (n := 20) rfl ?_
                refine o_istore X87 hx (hb hby d_prog_78_method_4_code_20) (Ls' := #[.val (.ref a1), .val (.long r_5), .second, .val (.int (42 : Int32)), .val (.int (o_lb (o_sh (o_sh (o_sh (o_sh (o_sh (o_sh (o_zz p0)))))))))]) rfl (n := 22) rfl ?_
                refine o_lloadN X87 hx (hb hby d_prog_78_method_4_code_22) (v := r_5) rfl (n := 23) rfl ?_
                refine o_iload X87 hx (hb hby d_prog_78_method_4_code_23) (v := (o_lb (o_sh (o_sh (o_sh (o_sh (o_sh (o_sh (o_zz p0))))))))) rfl (n := 25) rfl ?_
                refine o_i2l X87 hx (hb hby d_prog_78_method_4_code_25) (v := (o_lb (o_sh (o_sh (o_sh (o_sh (o_sh (o_sh (o_zz p0)))))))).toInt64) rfl (n := 26) rfl ?_
                refine o_ldc2_w X87 hx hZ (v := (127 : Int64)) hown (hw _ (List.mem_of_getElem? (i := 54) rfl)) (hb hby d_prog_78_method_4_code_26) (n := 29) rfl ?_
                refine o_land X87 hx (hb hby d_prog_78_method_4_code_29) (v := ((o_lb (o_sh (o_sh (o_sh (o_sh (o_sh (o_sh (o_zz p0)))))))).toInt64 &&& (127 : Int64))) rfl (n := 30) rfl ?_
                refine o_iloadN X87 hx (hb hby d_prog_78_method_4_code_30) (v := (42 : Int32)) rfl (n := 31) rfl ?_
                refine o_lshl X87 hx (hb hby d_prog_78_method_4_code_31) (v := (((o_lb (o_sh (o_sh (o_sh (o_sh (o_sh (o_sh (o_zz p0)))))))).toInt64 &&& (127 : Int64)) <<< (42 : Int64))) (congrArg (fun q : Int64 => ((o_lb (o_sh (o_sh (o_sh (o_sh (o_sh (o_sh (o_zz p0)))))))).toInt64 &&& (127 : Int64)) <<< q) (show ((42 : Int32) &&& 0x3f).toInt64 = 42 by decide)) (n := 32) rfl ?_
                refine o_lor X87 hx (hb hby d_prog_78_method_4_code_32) (v := (r_5 ||| (((o_lb (o_sh (o_sh (o_sh (o_sh (o_sh (o_sh (o_zz p0)))))))).toInt64 &&& (127 : Int64)) <<< (42 : Int64)))) rfl (n := 33) rfl ?_
                refine o_lstoreN X87 hx (hb hby d_prog_78_method_4_code_33) (Ls' := #[.val (.ref a1), .val (.long (r_5 ||| (((o_lb (o_sh (o_sh (o_sh (o_sh (o_sh (o_sh (o_zz p0)))))))).toInt64 &&& (127 : Int64)) <<< (42 : Int64)))), .second, .val (.int (42 : Int32)), .val (.int (o_lb (o_sh (o_sh (o_sh (o_sh (o_sh (o_sh (o_zz p0)))))))))]) rfl (n := 34) rfl ?_
                generalize h_r_6 : (r_5 ||| (((o_lb (o_sh (o_sh (o_sh (o_sh (o_sh (o_sh (o_zz p0)))))))).toInt64 &&& (127 : Int64)) <<< (42 : Int64))) = r_6
                have hf : r_6 = (o_zz p0) := o_fin_6 (o_zz p0) hr6 hz6 h_r_6
                refine o_iinc X87 hx (hb hby d_prog_78_method_4_code_34) (w := (49 : Int32)) rfl (by decide) (Ls' := #[.val (.ref a1), .val (.long r_6), .second, .val (.int (49 : Int32)), .val (.int (o_lb (o_sh (o_sh (o_sh (o_sh (o_sh (o_sh (o_zz p0)))))))))]) rfl (n := 37) rfl ?_
                refine o_iload X87 hx (hb hby d_prog_78_method_4_code_37) (v := (o_lb (o_sh (o_sh (o_sh (o_sh (o_sh (o_sh (o_zz p0))))))))) rfl (n := 39) rfl ?_
                refine o_sipush X87 hx (hb hby d_prog_78_method_4_code_39) (v := (128 : Int32)) rfl (n := 42) rfl ?_
                refine o_iand X87 hx (hb hby d_prog_78_method_4_code_42) (v := ((o_lb (o_sh (o_sh (o_sh (o_sh (o_sh (o_sh (o_zz p0)))))))) &&& (128 : Int32))) rfl (n := 43) rfl ?_
                refine o_ifN X87 hx (hb hby d_prog_78_method_4_code_43) (XT.i0_ne_f (o_lb128 hz6)) (n := 46) rfl ?_
                refine o_lloadN X87 hx (hb hby d_prog_78_method_4_code_46) (v := r_6) rfl (n := 47) rfl ?_
                refine o_iconst X87 hx (hb hby d_prog_78_method_4_code_47) (v := (1 : Int32)) rfl (n := 48) rfl ?_
                refine o_lushr X87 hx (hb hby d_prog_78_method_4_code_48) (v := (r_6.toUInt64 >>> (1 : UInt64)).toInt64) (congrArg (fun q : UInt64 => (r_6.toUInt64 >>> q).toInt64) (show ((1 : Int32) &&& 0x3f).toInt64.toUInt64 = 1 by decide)) (n := 49) rfl ?_
                refine o_lloadN X87 hx (hb hby d_prog_78_method_4_code_49) (v := r_6) rfl (n := 50) rfl ?_
                refine o_lconst X87 hx (hb hby d_prog_78_method_4_code_50) (v := (1 : Int64)) rfl (n := 51) rfl ?_
                refine o_land X87 hx (hb hby d_prog_78_method_4_code_51) (v := (r_6 &&& (1 : Int64))) rfl (n := 52) rfl ?_
                refine o_lneg X87 hx (hb hby d_prog_78_method_4_code_52) (v := (-(r_6 &&& (1 : Int64)))) rfl (n := 53) rfl ?_
                refine o_lxor X87 hx (hb hby d_prog_78_method_4_code_53) (v := (o_un r_6)) rfl (n := 54) rfl ?_
                have fP : Fld Z h87 a1 "com/example/estim365/estim365/formats/BytesIn" "position" "I" (.int (Int32.ofNat (pre.length + (o_enc 9 (o_zz p0)).length))) := by rw [hE]; exact F87
                exact o_lreturn X87 hx hret hlk (hb hby d_prog_78_method_4_code_54) (by decide) (by decide) e87 ⟨(by rw [hf, o_unzz]), N90, K91, E_87, f88, fP⟩
              · have hn6 : o_enc 9 (o_zz p0) = [(o_mb (o_zz p0)), (o_mb (o_sh (o_zz p0))), (o_mb (o_sh (o_sh (o_zz p0)))), (o_mb (o_sh (o_sh (o_sh (o_zz p0))))), (o_mb (o_sh (o_sh (o_sh (o_sh (o_zz p0)))))), (o_mb (o_sh (o_sh (o_sh (o_sh (o_sh (o_zz p0)))))))] ++ (o_mb (o_sh (o_sh (o_sh (o_sh (o_sh (o_sh (o_zz p0)))))))) :: o_enc 2 (o_sh (o_sh (o_sh (o_sh (o_sh (o_sh (o_sh (o_zz p0)))))))) := by simp [o_enc, hz0, hz1, hz2, hz3, hz4, hz5, hz6]
                refine o_aloadN X80 hx (hb hby d_prog_78_method_4_code_4) (v := (.ref a1)) rfl rfl (n := 5) rfl ?_
                refine o_getfield X80 hx hZ hown (host := "") (Or.inl (hw _ (List.mem_of_getElem? (i := 45) rfl))) Via.refl e80 f81 (hb hby d_prog_78_method_4_code_5) (n := 8) rfl ?_
                intro T92 X92 e92
                refine o_aloadN X92 hx (hb hby d_prog_78_method_4_code_8) (v := (.ref a1)) rfl rfl (n := 9) rfl ?_
                refine o_dup X92 hx (hb hby d_prog_78_method_4_code_9) rfl (n := 10) rfl ?_
                refine o_getfield X92 hx hZ hown (host := "") (Or.inl (hw _ (List.mem_of_getElem? (i := 47) rfl))) Via.refl e92 F80 (hb hby d_prog_78_method_4_code_10) (n := 13) rfl ?_
                intro T93 X93 e93
                refine o_dup_x1 X93 hx (hb hby d_prog_78_method_4_code_13) rfl rfl (n := 14) rfl ?_
                refine o_iconst X93 hx (hb hby d_prog_78_method_4_code_14) (v := (1 : Int32)) rfl (n := 15) rfl ?_
                refine o_iadd X93 hx (hb hby d_prog_78_method_4_code_15) (v := (Int32.ofNat (pre.length + 7))) (o_suc _) (n := 16) rfl ?_
                refine o_putfield X93 hx hZ hown (host := "") (Or.inl (hw _ (List.mem_of_getElem? (i := 47) rfl))) Via.refl e93 F80 E_80 (Or.inl (hw _ (List.mem_of_getElem? (i := 48) rfl))) (hw _ (List.mem_of_getElem? (i := 39) rfl)) (ty := .int) (by decide) rfl rfl (hb hby d_prog_78_method_4_code_16) (n := 19) rfl ?_
                intro T94 h94 X94 e94 W94 F94 E_94
                have f95 := f81.other W94 (Or.inr (slot_ne (Or.inr (hw _ (List.mem_of_getElem? (i := 46) rfl))) (Or.inl (hw _ (List.mem_of_getElem? (i := 48) rfl))) (by decide) (t := (.array .byte)) (t' := .int) (by decide) (by decide)))
                have f96 := f82.other W94 pne_a2_a1
                have zz94 : n0 ≤ h94.size := Nat.le_trans zz80 (Nat.le_of_eq W94.size.symm)
                have N97 := Fr.snoc X94 N83 pg_a1
                have K98 : Keep h0 h94 [a1] := K84.wr W94 (Or.inl (List.mem_of_getElem? (i := 0) rfl))
                refine o_baload X94 hx hZ e94 f96 ((pre.length + 6)) (o_tn (by omega)) (o_rg (by omega)) (v := (.int (o_mb (o_sh (o_sh (o_sh (o_sh (o_sh (o_sh (o_zz p0)))))))))) (o_nth pre post [(o_mb (o_zz p0)), (o_mb (o_sh (o_zz p0))), (o_mb (o_sh (o_sh (o_zz p0)))), (o_mb (o_sh (o_sh (o_sh (o_zz p0))))), (o_mb (o_sh (o_sh (o_sh (o_sh (o_zz p0)))))), (o_mb (o_sh (o_sh (o_sh (o_sh (o_sh (o_zz p0)))))))] _ _ _ 6 rfl hn6) (hb hby d_prog_78_method_4_code_19) (n := 20) rfl ?_
                refine o_istore X94 hx (hb hby d_prog_78_method_4_code_20) (Ls' := #[.val (.ref a1), .val (.long r_5), .second, .val (.int (42 : Int32)), .val (.int (o_mb (o_sh (o_sh (o_sh (o_sh (o_sh (o_sh (o_zz p0)))))))))]) rfl (n := 22) rfl ?_
                refine o_lloadN X94 hx (hb hby d_prog_78_method_4_code_22) (v := r_5) rfl (n := 23) rfl ?_
                refine o_iload X94 hx (hb hby d_prog_78_method_4_code_23) (v := (o_mb (o_sh (o_sh (o_sh (o_sh (o_sh (o_sh (o_zz p0))))))))) rfl (n := 25) rfl ?_
                refine o_i2l X94 hx (hb hby d_prog_78_method_4_code_25) (v := (o_mb (o_sh (o_sh (o_sh (o_sh (o_sh (o_sh (o_zz p0)))))))).toInt64) rfl (n := 26) rfl ?_
                refine o_ldc2_w X94 hx hZ (v := (127 : Int64)) hown (hw _ (List.mem_of_getElem? (i := 54) rfl)) (hb hby d_prog_78_method_4_code_26) (n := 29) rfl ?_
                refine o_land X94 hx (hb hby d_prog_78_method_4_code_29) (v := ((o_mb (o_sh (o_sh (o_sh (o_sh (o_sh (o_sh (o_zz p0)))))))).toInt64 &&& (127 : Int64))) rfl (n := 30) rfl ?_
                refine o_iloadN X94 hx (hb hby d_prog_78_method_4_code_30) (v := (42 : Int32)) rfl (n := 31) rfl ?_
                refine o_lshl X94 hx (hb hby d_prog_78_method_4_code_31) (v := (((o_mb (o_sh (o_sh (o_sh (o_sh (o_sh (o_sh (o_zz p0)))))))).toInt64 &&& (127 : Int64)) <<< (42 : Int64))) (congrArg (fun q : Int64 => ((o_mb (o_sh (o_sh (o_sh (o_sh (o_sh (o_sh (o_zz p0)))))))).toInt64 &&& (127 : Int64)) <<< q) (show ((42 : Int32) &&& 0x3f).toInt64 = 42 by decide)) (n := 32) rfl ?_
                refine o_lor X94 hx (hb hby d_prog_78_method_4_code_32) (v := (r_5 ||| (((o_mb (o_sh (o_sh (o_sh (o_sh (o_sh (o_sh (o_zz p0)))))))).toInt64 &&& (127 : Int64)) <<< (42 : Int64)))) rfl (n := 33) rfl ?_
                refine o_lstoreN X94 hx (hb hby d_prog_78_method_4_code_33) (Ls' := #[.val (.ref a1), .val (.long (r_5 ||| (((o_mb (o_sh (o_sh (o_sh (o_sh (o_sh (o_sh (o_zz p0)))))))).toInt64 &&& (127 : Int64)) <<< (42 : Int64)))), .second, .val (.int (42 : Int32)), .val (.int (o_mb (o_sh (o_sh (o_sh (o_sh (o_sh (o_sh (o_zz p0)))))))))]) rfl (n := 34) rfl ?_
                generalize h_r_6 : (r_5 ||| (((o_mb (o_sh (o_sh (o_sh (o_sh (o_sh (o_sh (o_zz p0)))))))).toInt64 &&& (127 : Int64)) <<< (42 : Int64))) = r_6
                have hr7 := o_acc_6 (o_zz p0) hr6 h_r_6
                refine o_iinc X94 hx (hb hby d_prog_78_method_4_code_34) (w := (49 : Int32)) rfl (by decide) (Ls' := #[.val (.ref a1), .val (.long r_6), .second, .val (.int (49 : Int32)), .val (.int (o_mb (o_sh (o_sh (o_sh (o_sh (o_sh (o_sh (o_zz p0)))))))))]) rfl (n := 37) rfl ?_
                refine o_iload X94 hx (hb hby d_prog_78_method_4_code_37) (v := (o_mb (o_sh (o_sh (o_sh (o_sh (o_sh (o_sh (o_zz p0))))))))) rfl (n := 39) rfl ?_
                refine o_sipush X94 hx (hb hby d_prog_78_method_4_code_39) (v := (128 : Int32)) rfl (n := 42) rfl ?_
                refine o_iand X94 hx (hb hby d_prog_78_method_4_code_42) (v := ((o_mb (o_sh (o_sh (o_sh (o_sh (o_sh (o_sh (o_zz p0)))))))) &&& (128 : Int32))) rfl (n := 43) rfl ?_
                refine o_ifY X94 hx (hb hby d_prog_78_method_4_code_43) (XT.i0_ne_t (o_mb128 _)) (by decide) (n := 4) (by decide) ?_
                by_cases hz7 : (o_sh (o_sh (o_sh (o_sh (o_sh (o_sh (o_sh (o_zz p0)))))))) &&& (-128 : Int64) = 0
                · have hE : o_enc 9 (o_zz p0) = [(o_mb (o_zz p0)), (o_mb (o_sh (o_zz p0))), (o_mb (o_sh (o_sh (o_zz p0)))), (o_mb (o_sh (o_sh (o_sh (o_zz p0))))), (o_mb (o_sh (o_sh (o_sh (o_sh (o_zz p0)))))), (o_mb (o_sh (o_sh (o_sh (o_sh (o_sh (o_zz p0))))))), (o_mb (o_sh (o_sh (o_sh (o_sh (o_sh (o_sh (o_zz p0)))))))), (o_lb (o_sh (o_sh (o_sh (o_sh (o_sh (o_sh (o_sh (o_zz p0)))))))))] := by simp [o_enc, hz0, hz1, hz2, hz3, hz4, hz5, hz6, hz7]
                  have hn7 : o_enc 9 (o_zz p0) = [(o_mb (o_zz p0)), (o_mb (o_sh (o_zz p0))), (o_mb (o_sh (o_sh (o_zz p0)))), (o_mb (o_sh (o_sh (o_sh (o_zz p0))))), (o_mb (o_sh (o_sh (o_sh (o_sh (o_zz p0)))))), (o_mb (o_sh (o_sh (o_sh (o_sh (o_sh (o_zz p0))))))), (o_mb (o_sh (o_sh (o_sh (o_sh (o_sh (o_sh (o_zz p0))))))))] ++ (o_lb (o_sh (o_sh (o_sh (o_sh (o_sh (o_sh (o_sh (o_zz p0))))))))) :: [] := by simp [o_enc, hz0, hz1, hz2, hz3, hz4, hz5, hz6, hz7]
                  refine o_aloadN X94 hx (hb hby d_prog_78_method_4_code_4) (v := (.ref a1)) rfl rfl (n := 5) rfl ?_
                  refine o_getfield X94 hx hZ hown (host := "") (Or.inl (hw _ (List.mem_of_getElem? (i := 45) rfl))) Via.refl e94 f95 (hb hby d_prog_78_method_4_code_5) (n := 8) rfl ?_
                  intro T99 X99 e99
                  refine o_aloadN X99 hx (hb hby d_prog_78_method_4_code_8) (v := (.ref a1)) rfl rfl (n := 9) rfl ?_
                  refine o_dup X99 hx (hb hby d_prog_78_method_4_code_9) rfl (n := 10) rfl ?_
                  refine o_getfield X99 hx hZ hown (host := "") (Or.inl (hw _ (List.mem_of_getElem? (i := 47) rfl))) Via.refl e99 F94 (hb hby d_prog_78_method_4_code_10) (n := 13) rfl ?_
                  intro T100 X100 e100
                  refine o_dup_x1 X100 hx (hb hby d_prog_78_method_4_code_13) rfl rfl (n := 14) rfl ?_
                  refine o_iconst X100 hx (hb hby d_prog_78_method_4_code_14) (v := (1 : Int32)) rfl (n := 15) rfl ?_
                  refine o_iadd X100 hx (hb hby d_prog_78_method_4_code_15) (v := (Int32.ofNat (pre.length + 8))) (o_suc _) (n := 16) rfl ?_
                  refine o_putfield X100 hx hZ hown (host := "") (Or.inl (hw _ (List.mem_of_getElem? (i := 47) rfl))) Via.refl e100 F94 E_94 (Or.inl (hw _ (List.mem_of_getElem? (i := 48) rfl))) (hw _ (List.mem_of_getElem? (i := 39) rfl)) (ty := .int) (by decide) rfl rfl (hb hby d_prog_78_method_4_code_16) (n := 19) rfl ?_
                  intro T101 h101 X101 e101 W101 F101 E_101
                  have f102 := f95.other W101 (Or.inr (slot_ne (Or.inr (hw _ (List.mem_of_getElem? (i := 46) rfl))) (Or.inl (hw _ (List.mem_of_getElem? (i := 48) rfl))) (by decide) (t := (.array .byte)) (t' := .int) (by decide) (by decide)))
                  have f103 := f96.other W101 pne_a2_a1
                  have zz101 : n0 ≤ h101.size := Nat.le_trans zz94 (Nat.le_of_eq W101.size.symm)
                  have N104 := Fr.snoc X101 N97 pg_a1
                  have K105 : Keep h0 h101 [a1] := K98.wr W101 (Or.inl (List.mem_of_getElem? (i := 0) rfl))
                  refine o_baload X101 hx hZ e101 f103 ((pre.length + 7)) (o_tn (by omega)) (o_rg (by omega)) (v := (.int (o_lb (o_sh (o_sh (o_sh (o_sh (o_sh (o_sh (o_sh (o_zz p0))))))))))) (o_nth pre post [(o_mb (o_zz p0)), (o_mb (o_sh (o_zz p0))), (o_mb (o_sh (o_sh (o_zz p0)))), (o_mb (o_sh (o_sh (o_sh (o_zz p0))))), (o_mb (o_sh (o_sh (o_sh (o_sh (o_zz p0)))))), (o_mb (o_sh (o_sh (o_sh (o_sh (o_sh (o_zz p0))))))), (o_mb (o_sh (o_sh (o_sh (o_sh (o_sh (o_sh (o_zz p0))))))))] _ _ _ 7 rfl hn7) (hb hby d_prog_78_method_4_code_19) (n := 20) rfl ?_
                  refine o_istore X101 hx (hb hby d_prog_78_method_4_code_20) (Ls' := #[.val (.ref a1), .val (.long r_6), .second, .val (.int (49 : Int32)), .val (.int (o_lb (o_sh (o_sh (o_sh (o_sh (o_sh (o_sh (o_sh (o_zz p0))))))))))]) rfl (n := 22) rfl ?_
                  refine o_lloadN X101 hx (hb hby d_prog_78_method_4_code_22) (v := r_6) rfl (n := 23) rfl ?_
                  refine o_iload X101 hx (hb hby d_prog_78_method_4_code_23) (v := (o_lb (o_sh (o_sh (o_sh (o_sh (o_sh (o_sh (o_sh (o_zz p0)))))))))) rfl (n := 25) rfl ?_
                  refine o_i2l X101 hx (hb hby d_prog_78_method_4_code_25) (v := (o_lb (o_sh (o_sh (o_sh (o_sh (o_sh (o_sh (o_sh (o_zz p0))))))))).toInt64) rfl (n := 26) rfl ?_
                  refine o_ldc2_w X101 hx hZ (v := (127 : Int64)) hown (hw _ (List.mem_of_getElem? (i := 54) rfl)) (hb hby d_prog_78_method_4_code_26) (n := 29) rfl ?_
                  refine o_land X101 hx (hb hby d_prog_78_method_4_code_29) (v := ((o_lb (o_sh (o_sh (o_sh (o_sh (o_sh (o_sh (o_sh (o_zz p0))))))))).toInt64 &&& (127 : Int64))) rfl (n := 30) rfl ?_
                  refine o_iloadN X101 hx (hb hby d_prog_78_method_4_code_30) (v := (49 : Int32)) rfl (n := 31) rfl ?_
                  refine o_lshl X101 hx (hb hby d_prog_78_method_4_code_31) (v := (((o_lb (o_sh (o_sh (o_sh (o_sh (o_sh (o_sh (o_sh (o_zz p0))))))))).toInt64 &&& (127 : Int64)) <<< (49 : Int64))) (congrArg (fun q : Int64 => ((o_lb (o_sh (o_sh (o_sh (o_sh (o_sh (o_sh (o_sh (o_zz p0))))))))).toInt64 &&& (127 : Int64)) <<< q) (show ((49 : Int32) &&& 0x3f).toInt64 = 49 by decide)) (n := 32) rfl ?_
                  refine o_lor X101 hx (hb hby d_prog_78_method_4_code_32) (v := (r_6 ||| (((o_lb (o_sh (o_sh (o_sh (o_sh (o_sh (o_sh (o_sh (o_zz p0))))))))).toInt64 &&& (127 : Int64)) <<< (49 : Int64)))) rfl (n := 33) rfl ?_
                  refine o_lstoreN X101 hx (hb hby d_prog_78_method_4_code_33) (Ls' := #[.val (.ref a1), .val (.long (r_6 ||| (((o_lb (o_sh (o_sh (o_sh (o_sh (o_sh (o_sh (o_sh (o_zz p0))))))))).toInt64 &&& (127 : Int64)) <<< (49 : Int64)))), .second, .val (.int (49 : Int32)), .val (.int (o_lb (o_sh (o_sh (o_sh (o_sh (o_sh (o_sh (o_sh (o_zz p0))))))))))]) rfl (n := 34) rfl ?_
                  generalize h_r_7 : (r_6 ||| (((o_lb (o_sh (o_sh (o_sh (o_sh (o_sh (o_sh (o_sh (o_zz p0))))))))).toInt64 &&& (127 : Int64)) <<< (49 : Int64))) = r_7
                  have hf : r_7 = (o_zz p0) := o_fin_7 (o_zz p0) hr7 hz7 h_r_7
                  refine o_iinc X101 hx (hb hby d_prog_78_method_4_code_34) (w := (56 : Int32)) rfl (by decide) (Ls' := #[.val (.ref a1), .val (.long r_7), .second, .val (.int (56 : Int32)), .val (.int (o_lb (o_sh (o_sh (o_sh (o_sh (o_sh (o_sh (o_sh (o_zz p0))))))))))]) rfl (n := 37) rfl ?_
                  refine o_iload X101 hx (hb hby d_prog_78_method_4_code_37) (v := (o_lb (o_sh (o_sh (o_sh (o_sh (o_sh (o_sh (o_sh (o_zz p0)))))))))) rfl (n := 39) rfl ?_
                  refine o_sipush X101 hx (hb hby d_prog_78_method_4_code_39) (v := (128 : Int32)) rfl (n := 42) rfl ?_
                  refine o_iand X101 hx (hb hby d_prog_78_method_4_code_42) (v := ((o_lb (o_sh (o_sh (o_sh (o_sh (o_sh (o_sh (o_sh (o_zz p0))))))))) &&& (128 : Int32))) rfl (n := 43) rfl ?_
                  refine o_ifN X101 hx (hb hby d_prog_78_method_4_code_43) (XT.i0_ne_f (o_lb128 hz7)) (n := 46) rfl ?_
                  refine o_lloadN X101 hx (hb hby d_prog_78_method_4_code_46) (v := r_7) rfl (n := 47) rfl ?_
                  refine o_iconst X101 hx (hb hby d_prog_78_method_4_code_47) (v := (1 : Int32)) rfl (n := 48) rfl ?_
                  refine o_lushr X101 hx (hb hby d_prog_78_method_4_code_48) (v := (r_7.toUInt64 >>> (1 : UInt64)).toInt64) (congrArg (fun q : UInt64 => (r_7.toUInt64 >>> q).toInt64) (show ((1 : Int32) &&& 0x3f).toInt64.toUInt64 = 1 by decide)) (n := 49) rfl ?_
                  refine o_lloadN X101 hx (hb hby d_prog_78_method_4_code_49) (v := r_7) rfl (n := 50) rfl ?_
                  refine o_lconst X101 hx (hb hby d_prog_78_method_4_code_50) (v := (1 : Int64)) rfl (n := 51) rfl ?_
                  refine o_land X101 hx (hb hby d_prog_78_method_4_code_51) (v := (r_7 &&& (1 : Int64))) rfl (n := 52) rfl ?_
                  refine o_lneg X101 hx (hb hby d_prog_78_method_4_code_52) (v := (-(r_7 &&& (1 : Int64)))) rfl (n := 53) rfl ?_
                  refine o_lxor X101 hx (hb hby d_prog_78_method_4_code_53) (v := (o_un r_7)) rfl (n := 54) rfl ?_
                  have fP : Fld Z h101 a1 "com/example/estim365/estim365/formats/BytesIn" "position" "I" (.int (Int32.ofNat (pre.length + (o_enc 9 (o_zz p0)).length))) := by rw [hE]; exact F101
                  exact o_lreturn X101 hx hret hlk (hb hby d_prog_78_method_4_code_54) (by decide) (by decide) e101 ⟨(by rw [hf, o_unzz]), N104, K105, E_101, f102, fP⟩
                · have hn7 : o_enc 9 (o_zz p0) = [(o_mb (o_zz p0)), (o_mb (o_sh (o_zz p0))), (o_mb (o_sh (o_sh (o_zz p0)))), (o_mb (o_sh (o_sh (o_sh (o_zz p0))))), (o_mb (o_sh (o_sh (o_sh (o_sh (o_zz p0)))))), (o_mb (o_sh (o_sh (o_sh (o_sh (o_sh (o_zz p0))))))), (o_mb (o_sh (o_sh (o_sh (o_sh (o_sh (o_sh (o_zz p0))))))))] ++ (o_mb (o_sh (o_sh (o_sh (o_sh (o_sh (o_sh (o_sh (o_zz p0))))))))) :: o_enc 1 (o_sh (o_sh (o_sh (o_sh (o_sh (o_sh (o_sh (o_sh (o_zz p0))))))))) := by simp [o_enc, hz0, hz1, hz2, hz3, hz4, hz5, hz6, hz7]
                  refine o_aloadN X94 hx (hb hby d_prog_78_method_4_code_4) (v := (.ref a1)) rfl rfl (n := 5) rfl ?_
                  refine o_getfield X94 hx hZ hown (host := "") (Or.inl (hw _ (List.mem_of_getElem? (i := 45) rfl))) Via.refl e94 f95 (hb hby d_prog_78_method_4_code_5) (n := 8) rfl ?_
                  intro T106 X106 e106
                  refine o_aloadN X106 hx (hb hby d_prog_78_method_4_code_8) (v := (.ref a1)) rfl rfl (n := 9) rfl ?_
                  refine o_dup X106 hx (hb hby d_prog_78_method_4_code_9) rfl (n := 10) rfl ?_
                  refine o_getfield X106 hx hZ hown (host := "") (Or.inl (hw _ (List.mem_of_getElem? (i := 47) rfl))) Via.refl e106 F94 (hb hby d_prog_78_method_4_code_10) (n := 13) rfl ?_
                  intro T107 X107 e107
                  refine o_dup_x1 X107 hx (hb hby d_prog_78_method_4_code_13) rfl rfl (n := 14) rfl ?_
                  refine o_iconst X107 hx (hb hby d_prog_78_method_4_code_14) (v := (1 : Int32)) rfl (n := 15) rfl ?_
                  refine o_iadd X107 hx (hb hby d_prog_78_method_4_code_15) (v := (Int32.ofNat (pre.length + 8))) (o_suc _) (n := 16) rfl ?_
                  refine o_putfield X107 hx hZ hown (host := "") (Or.inl (hw _ (List.mem_of_getElem? (i := 47) rfl))) Via.refl e107 F94 E_94 (Or.inl (hw _ (List.mem_of_getElem? (i := 48) rfl))) (hw _ (List.mem_of_getElem? (i := 39) rfl)) (ty := .int) (by decide) rfl rfl (hb hby d_prog_78_method_4_code_16) (n := 19) rfl ?_
                  intro T108 h108 X108 e108 W108 F108 E_108
                  have f109 := f95.other W108 (Or.inr (slot_ne (Or.inr (hw _ (List.mem_of_getElem? (i := 46) rfl))) (Or.inl (hw _ (List.mem_of_getElem? (i := 48) rfl))) (by decide) (t := (.array .byte)) (t' := .int) (by decide) (by decide)))
                  have f110 := f96.other W108 pne_a2_a1
                  have zz108 : n0 ≤ h108.size := Nat.le_trans zz94 (Nat.le_of_eq W108.size.symm)
                  have N111 := Fr.snoc X108 N97 pg_a1
                  have K112 : Keep h0 h108 [a1] := K98.wr W108 (Or.inl (List.mem_of_getElem? (i := 0) rfl))
                  refine o_baload X108 hx hZ e108 f110 ((pre.length + 7)) (o_tn (by omega)) (o_rg (by omega)) (v := (.int (o_mb (o_sh (o_sh (o_sh (o_sh (o_sh (o_sh (o_sh (o_zz p0))))))))))) (o_nth pre post [(o_mb (o_zz p0)), (o_mb (o_sh (o_zz p0))), (o_mb (o_sh (o_sh (o_zz p0)))), (o_mb (o_sh (o_sh (o_sh (o_zz p0))))), (o_mb (o_sh (o_sh (o_sh (o_sh (o_zz p0)))))), (o_mb (o_sh (o_sh (o_sh (o_sh (o_sh (o_zz p0))))))), (o_mb (o_sh (o_sh (o_sh (o_sh (o_sh (o_sh (o_zz p0))))))))] _ _ _ 7 rfl hn7) (hb hby d_prog_78_method_4_code_19) (n := 20) rfl ?_
                  refine o_istore X108 hx (hb hby d_prog_78_method_4_code_20) (Ls' := #[.val (.ref a1), .val (.long r_6), .second, .val (.int (49 : Int32)), .val (.int (o_mb (o_sh (o_sh (o_sh (o_sh (o_sh (o_sh (o_sh (o_zz p0))))))))))]) rfl (n := 22) rfl ?_
                  refine o_lloadN X108 hx (hb hby d_prog_78_method_4_code_22) (v := r_6) rfl (n := 23) rfl ?_
                  refine o_iload X108 hx (hb hby d_prog_78_method_4_code_23) (v := (o_mb (o_sh (o_sh (o_sh (o_sh (o_sh (o_sh (o_sh (o_zz p0)))))))))) rfl (n := 25) rfl ?_
                  refine o_i2l X108 hx (hb hby d_prog_78_method_4_code_25) (v := (o_mb (o_sh (o_sh (o_sh (o_sh (o_sh (o_sh (o_sh (o_zz p0))))))))).toInt64) rfl (n := 26) rfl ?_
                  refine o_ldc2_w X108 hx hZ (v := (127 : Int64)) hown (hw _ (List.mem_of_getElem? (i := 54) rfl)) (hb hby d_prog_78_method_4_code_26) (n := 29) rfl ?_
                  refine o_land X108 hx (hb hby d_prog_78_method_4_code_29) (v := ((o_mb (o_sh (o_sh (o_sh (o_sh (o_sh (o_sh (o_sh (o_zz p0))))))))).toInt64 &&& (127 : Int64))) rfl (n := 30) rfl ?_
                  refine o_iloadN X108 hx (hb hby d_prog_78_method_4_code_30) (v := (49 : Int32)) rfl (n := 31) rfl ?_
                  refine o_lshl X108 hx (hb hby d_prog_78_method_4_code_31) (v := (((o_mb (o_sh (o_sh (o_sh (o_sh (o_sh (o_sh (o_sh (o_zz p0))))))))).toInt64 &&& (127 : Int64)) <<< (49 : Int64))) (congrArg (fun q : Int64 => ((o_mb (o_sh (o_sh (o_sh (o_sh (o_sh (o_sh (o_sh (o_zz p0))))))))).toInt64 &&& (127 : Int64)) <<< q) (show ((49 : Int32) &&& 0x3f).toInt64 = 49 by decide)) (n := 32) rfl ?_
                  refine o_lor X108 hx (hb hby d_prog_78_method_4_code_32) (v := (r_6 ||| (((o_mb (o_sh (o_sh (o_sh (o_sh (o_sh (o_sh (o_sh (o_zz p0))))))))).toInt64 &&& (127 : Int64)) <<< (49 : Int64)))) rfl (n := 33) rfl ?_
                  refine o_lstoreN X108 hx (hb hby d_prog_78_method_4_code_33) (Ls' := #[.val (.ref a1), .val (.long (r_6 ||| (((o_mb (o_sh (o_sh (o_sh (o_sh (o_sh (o_sh (o_sh (o_zz p0))))))))).toInt64 &&& (127 : Int64)) <<< (49 : Int64)))), .second, .val (.int (49 : Int32)), .val (.int (o_mb (o_sh (o_sh (o_sh (o_sh (o_sh (o_sh (o_sh (o_zz p0))))))))))]) rfl (n := 34) rfl ?_
                  generalize h_r_7 : (r_6 ||| (((o_mb (o_sh (o_sh (o_sh (o_sh (o_sh (o_sh (o_sh (o_zz p0))))))))).toInt64 &&& (127 : Int64)) <<< (49 : Int64))) = r_7
                  have hr8 := o_acc_7 (o_zz p0) hr7 h_r_7
                  refine o_iinc X108 hx (hb hby d_prog_78_method_4_code_34) (w := (56 : Int32)) rfl (by decide) (Ls' := #[.val (.ref a1), .val (.long r_7), .second, .val (.int (56 : Int32)), .val (.int (o_mb (o_sh (o_sh (o_sh (o_sh (o_sh (o_sh (o_sh (o_zz p0))))))))))]) rfl (n := 37) rfl ?_
                  refine o_iload X108 hx (hb hby d_prog_78_method_4_code_37) (v := (o_mb (o_sh (o_sh (o_sh (o_sh (o_sh (o_sh (o_sh (o_zz p0)))))))))) rfl (n := 39) rfl ?_
                  refine o_sipush X108 hx (hb hby d_prog_78_method_4_code_39) (v := (128 : Int32)) rfl (n := 42) rfl ?_
                  refine o_iand X108 hx (hb hby d_prog_78_method_4_code_42) (v := ((o_mb (o_sh (o_sh (o_sh (o_sh (o_sh (o_sh (o_sh (o_zz p0))))))))) &&& (128 : Int32))) rfl (n := 43) rfl ?_
                  refine o_ifY X108 hx (hb hby d_prog_78_method_4_code_43) (XT.i0_ne_t (o_mb128 _)) (by decide) (n := 4) (by decide) ?_
                  by_cases hz8 : (o_sh (o_sh (o_sh (o_sh (o_sh (o_sh (o_sh (o_sh (o_zz p0))))))))) &&& (-128 : Int64) = 0
                  · have hE : o_enc 9 (o_zz p0) = [(o_mb (o_zz p0)), (o_mb (o_sh (o_zz p0))), (o_mb (o_sh (o_sh (o_zz p0)))), (o_mb (o_sh (o_sh (o_sh (o_zz p0))))), (o_mb (o_sh (o_sh (o_sh (o_sh (o_zz p0)))))), (o_mb (o_sh (o_sh (o_sh (o_sh (o_sh (o_zz p0))))))), (o_mb (o_sh (o_sh (o_sh (o_sh (o_sh (o_sh (o_zz p0)))))))), (o_mb (o_sh (o_sh (o_sh (o_sh (o_sh (o_sh (o_sh (o_zz p0))))))))), (o_lb (o_sh (o_sh (o_sh (o_sh (o_sh (o_sh (o_sh (o_sh (o_zz p0))))))))))] := by simp [o_enc, hz0, hz1, hz2, hz3, hz4, hz5, hz6, hz7, hz8]
                    have hn8 : o_enc 9 (o_zz p0) = [(o_mb (o_zz p0)), (o_mb (o_sh (o_zz p0))), (o_mb (o_sh (o_sh (o_zz p0)))), (o_mb (o_sh (o_sh (o_sh (o_zz p0))))), (o_mb (o_sh (o_sh (o_sh (o_sh (o_zz p0)))))), (o_mb (o_sh (o_sh (o_sh (o_sh (o_sh (o_zz p0))))))), (o_mb (o_sh (o_sh (o_sh (o_sh (o_sh (o_sh (o_zz p0)))))))), (o_mb (o_sh (o_sh (o_sh (o_sh (o_sh (o_sh (o_sh (o_zz p0)))))))))] ++ (o_lb (o_sh (o_sh (o_sh (o_sh (o_sh (o_sh (o_sh (o_sh (o_zz p0)))))))))) :: [] := by simp [o_enc, hz0, hz1, hz2, hz3, hz4, hz5, hz6, hz7, hz8]
                    refine o_aloadN X108 hx (hb hby d_prog_78_method_4_code_4) (v := (.ref a1)) rfl rfl (n := 5) rfl ?_
                    refine o_getfield X108 hx hZ hown (host := "") (Or.inl (hw _ (List.mem_of_getElem? (i := 45) rfl))) Via.refl e108 f109 (hb hby d_prog_78_method_4_code_5) (n := 8) rfl ?_
                    intro T113 X113 e113
                    refine o_aloadN X113 hx (hb hby d_prog_78_method_4_code_8) (v := (.ref a1)) rfl rfl (n := 9) rfl ?_
                    refine o_dup X113 hx (hb hby d_prog_78_method_4_code_9) rfl (n := 10) rfl ?_
                    refine o_getfield X113 hx hZ hown (host := "") (Or.inl (hw _ (List.mem_of_getElem? (i := 47) rfl))) Via.refl e113 F108 (hb hby d_prog_78_method_4_code_10) (n := 13) rfl ?_
                    intro T114 X114 e114
                    refine o_dup_x1 X114 hx (hb hby d_prog_78_method_4_code_13) rfl rfl (n := 14) rfl ?_
                    refine o_iconst X114 hx (hb hby d_prog_78_method_4_code_14) (v := (1 : Int32)) rfl (n := 15) rfl ?_
                    refine o_iadd X114 hx (hb hby d_prog_78_method_4_code_15) (v := (Int32.ofNat (pre.length + 9))) (o_suc _) (n := 16) rfl ?_
                    refine o_putfield X114 hx hZ hown (host := "") (Or.inl (hw _ (List.mem_of_getElem? (i := 47) rfl))) Via.refl e114 F108 E_108 (Or.inl (hw _ (List.mem_of_getElem? (i := 48) rfl))) (hw _ (List.mem_of_getElem? (i := 39) rfl)) (ty := .int) (by decide) rfl rfl (hb hby d_prog_78_method_4_code_16) (n := 19) rfl ?_
                    intro T115 h115 X115 e115 W115 F115 E_115
                    have f116 := f109.other W115 (Or.inr (slot_ne (Or.inr (hw _ (List.mem_of_getElem? (i := 46) rfl))) (Or.inl (hw _ (List.mem_of_getElem? (i := 48) rfl))) (by decide) (t := (.array .byte)) (t' := .int) (by decide) (by decide)))
                    have f117 := f110.other W115 pne_a2_a1
                    have zz115 : n0 ≤ h115.size := Nat.le_trans zz108 (Nat.le_of_eq W115.size.symm)
                    have N118 := Fr.snoc X115 N111 pg_a1
                    have K119 : Keep h0 h115 [a1] := K112.wr W115 (Or.inl (List.mem_of_getElem? (i := 0) rfl))
                    refine o_baload X115 hx hZ e115 f117 ((pre.length + 8)) (o_tn (by omega)) (o_rg (by omega)) (v := (.int (o_lb (o_sh (o_sh (o_sh (o_sh (o_sh (o_sh (o_sh (o_sh (o_zz p0)))))))))))) (o_nth pre post [(o_mb (o_zz p0)), (o_mb (o_sh (o_zz p0))), (o_mb (o_sh (o_sh (o_zz p0)))), (o_mb (o_sh (o_sh (o_sh (o_zz p0))))), (o_mb (o_sh (o_sh (o_sh (o_sh (o_zz p0)))))), (o_mb (o_sh (o_sh (o_sh (o_sh (o_sh (o_zz p0))))))), (o_mb (o_sh (o_sh (o_sh (o_sh (o_sh (o_sh (o_zz p0)))))))), (o_mb (o_sh (o_sh (o_sh (o_sh (o_sh (o_sh (o_sh (o_zz p0)))))))))] _ _ _ 8 rfl hn8) (hb hby d_prog_78_method_4_code_19) (n := 20) rfl ?_
                    refine o_istore X115 hx (hb hby d_prog_78_method_4_code_20) (Ls' := #[.val (.ref a1), .val (.long r_7), .second, .val (.int (56 : Int32)), .val (.int (o_lb (o_sh (o_sh (o_sh (o_sh (o_sh (o_sh (o_sh (o_sh (o_zz p0)))))))))))]) rfl (n := 22) rfl ?_
                    refine o_lloadN X115 hx (hb hby d_prog_78_method_4_code_22) (v := r_7) rfl (n := 23) rfl ?_
                    refine o_iload X115 hx (hb hby d_prog_78_method_4_code_23) (v := (o_lb (o_sh (o_sh (o_sh (o_sh (o_sh (o_sh (o_sh (o_sh (o_zz p0))))))))))) rfl (n := 25) rfl ?_
                    refine o_i2l X115 hx (hb hby d_prog_78_method_4_code_25) (v := (o_lb (o_sh (o_sh (o_sh (o_sh (o_sh (o_sh (o_sh (o_sh (o_zz p0)))))))))).toInt64) rfl (n := 26) rfl ?_
                    refine o_ldc2_w X115 hx hZ (v := (127 : Int64)) hown (hw _ (List.mem_of_getElem? (i := 54) rfl)) (hb hby d_prog_78_method_4_code_26) (n := 29) rfl ?_
                    refine o_land X115 hx (hb hby d_prog_78_method_4_code_29) (v := ((o_lb (o_sh (o_sh (o_sh (o_sh (o_sh (o_sh (o_sh (o_sh (o_zz p0)))))))))).toInt64 &&& (127 : Int64))) rfl (n := 30) rfl ?_
                    refine o_iloadN X115 hx (hb hby d_prog_78_method_4_code_30) (v := (56 : Int32)) rfl (n := 31) rfl ?_
                    refine o_lshl X115 hx (hb hby d_prog_78_method_4_code_31) (v := (((o_lb (o_sh (o_sh (o_sh (o_sh (o_sh (o_sh (o_sh (o_sh (o_zz p0)))))))))).toInt64 &&& (127 : Int64)) <<< (56 : Int64))) (congrArg (fun q : Int64 => ((o_lb (o_sh (o_sh (o_sh (o_sh (o_sh (o_sh (o_sh (o_sh (o_zz p0)))))))))).toInt64 &&& (127 : Int64)) <<< q) (show ((56 : Int32) &&& 0x3f).toInt64 = 56 by decide)) (n := 32) rfl ?_
                    refine o_lor X115 hx (hb hby d_prog_78_method_4_code_32) (v := (r_7 ||| (((o_lb (o_sh (o_sh (o_sh (o_sh (o_sh (o_sh (o_sh (o_sh (o_zz p0)))))))))).toInt64 &&& (127 : Int64)) <<< (56 : Int64)))) rfl (n := 33) rfl ?_
                    refine o_lstoreN X115 hx (hb hby d_prog_78_method_4_code_33) (Ls' := #[.val (.ref a1), .val (.long (r_7 ||| (((o_lb (o_sh (o_sh (o_sh (o_sh (o_sh (o_sh (o_sh (o_sh (o_zz p0)))))))))).toInt64 &&& (127 : Int64)) <<< (56 : Int64)))), .second, .val (.int (56 : Int32)), .val (.int (o_lb (o_sh (o_sh (o_sh (o_sh (o_sh (o_sh (o_sh (o_sh (o_zz p0)))))))))))]) rfl (n := 34) rfl ?_
                    generalize h_r_8 : (r_7 ||| (((o_lb (o_sh (o_sh (o_sh (o_sh (o_sh (o_sh (o_sh (o_sh (o_zz p0)))))))))).toInt64 &&& (127 : Int64)) <<< (56 : Int64))) = r_8
                    have hf : r_8 = (o_zz p0) := o_fin_8 (o_zz p0) hr8 hz8 h_r_8
                    refine o_iinc X115 hx (hb hby d_prog_78_method_4_code_34) (w := (63 : Int32)) rfl (by decide) (Ls' := #[.val (.ref a1), .val (.long r_8), .second, .val (.int (63 : Int32)), .val (.int (o_lb (o_sh (o_sh (o_sh (o_sh (o_sh (o_sh (o_sh (o_sh (o_zz p0)))))))))))]) rfl (n := 37) rfl ?_
                    refine o_iload X115 hx (hb hby d_prog_78_method_4_code_37) (v := (o_lb (o_sh (o_sh (o_sh (o_sh (o_sh (o_sh (o_sh (o_sh (o_zz p0))))))))))) rfl (n := 39) rfl ?_
                    refine o_sipush X115 hx (hb hby d_prog_78_method_4_code_39) (v := (128 : Int32)) rfl (n := 42) rfl ?_
                    refine o_iand X115 hx (hb hby d_prog_78_method_4_code_42) (v := ((o_lb (o_sh (o_sh (o_sh (o_sh (o_sh (o_sh (o_sh (o_sh (o_zz p0)))))))))) &&& (128 : Int32))) rfl (n := 43) rfl ?_
                    refine o_ifN X115 hx (hb hby d_prog_78_method_4_code_43) (XT.i0_ne_f (o_lb128 hz8)) (n := 46) rfl ?_
                    refine o_lloadN X115 hx (hb hby d_prog_78_method_4_code_46) (v := r_8) rfl (n := 47) rfl ?_
                    refine o_iconst X115 hx (hb hby d_prog_78_method_4_code_47) (v := (1 : Int32)) rfl (n := 48) rfl ?_
                    refine o_lushr X115 hx (hb hby d_prog_78_method_4_code_48) (v := (r_8.toUInt64 >>> (1 : UInt64)).toInt64) (congrArg (fun q : UInt64 => (r_8.toUInt64 >>> q).toInt64) (show ((1 : Int32) &&& 0x3f).toInt64.toUInt64 = 1 by decide)) (n := 49) rfl ?_
                    refine o_lloadN X115 hx (hb hby d_prog_78_method_4_code_49) (v := r_8) rfl (n := 50) rfl ?_
                    refine o_lconst X115 hx (hb hby d_prog_78_method_4_code_50) (v := (1 : Int64)) rfl (n := 51) rfl ?_
                    refine o_land X115 hx (hb hby d_prog_78_method_4_code_51) (v := (r_8 &&& (1 : Int64))) rfl (n := 52) rfl ?_
                    refine o_lneg X115 hx (hb hby d_prog_78_method_4_code_52) (v := (-(r_8 &&& (1 : Int64)))) rfl (n := 53) rfl ?_
                    refine o_lxor X115 hx (hb hby d_prog_78_method_4_code_53) (v := (o_un r_8)) rfl (n := 54) rfl ?_
                    have fP : Fld Z h115 a1 "com/example/estim365/estim365/formats/BytesIn" "position" "I" (.int (Int32.ofNat (pre.length + (o_enc 9 (o_zz p0)).length))) := by rw [hE]; exact F115
                    exact o_lreturn X115 hx hret hlk (hb hby d_prog_78_method_4_code_54) (by decide) (by decide) e115 ⟨(by rw [hf, o_unzz]), N118, K119, E_115, f116, fP⟩
                  · have hn8 : o_enc 9 (o_zz p0) = [(o_mb (o_zz p0)), (o_mb (o_sh (o_zz p0))), (o_mb (o_sh (o_sh (o_zz p0)))), (o_mb (o_sh (o_sh (o_sh (o_zz p0))))), (o_mb (o_sh (o_sh (o_sh (o_sh (o_zz p0)))))), (o_mb (o_sh (o_sh (o_sh (o_sh (o_sh (o_zz p0))))))), (o_mb (o_sh (o_sh (o_sh (o_sh (o_sh (o_sh (o_zz p0)))))))), (o_mb (o_sh (o_sh (o_sh (o_sh (o_sh (o_sh (o_sh (o_zz p0)))))))))] ++ (o_mb (o_sh (o_sh (o_sh (o_sh (o_sh (o_sh (o_sh (o_sh (o_zz p0)))))))))) :: o_enc 0 (o_sh (o_sh (o_sh (o_sh (o_sh (o_sh (o_sh (o_sh (o_sh (o_zz p0)))))))))) := by simp [o_enc, hz0, hz1, hz2, hz3, hz4, hz5, hz6, hz7, hz8]
                    refine o_aloadN X108 hx (hb hby d_prog_78_method_4_code_4) (v := (.ref a1)) rfl rfl (n := 5) rfl ?_
                    refine o_getfield X108 hx hZ hown (host := "") (Or.inl (hw _ (List.mem_of_getElem? (i := 45) rfl))) Via.refl e108 f109 (hb hby d_prog_78_method_4_code_5) (n := 8) rfl ?_
                    intro T120 X120 e120
                    refine o_aloadN X120 hx (hb hby d_prog_78_method_4_code_8) (v := (.ref a1)) rfl rfl (n := 9) rfl ?_
                    refine o_dup X120 hx (hb hby d_prog_78_method_4_code_9) rfl (n := 10) rfl ?_
                    refine o_getfield X120 hx hZ hown (host := "") (Or.inl (hw _ (List.mem_of_getElem? (i := 47) rfl))) Via.refl e120 F108 (hb hby d_prog_78_method_4_code_10) (n := 13) rfl ?_
                    intro T121 X121 e121
                    refine o_dup_x1 X121 hx (hb hby d_prog_78_method_4_code_13) rfl rfl (n := 14) rfl ?_
                    refine o_iconst X121 hx (hb hby d_prog_78_method_4_code_14) (v := (1 : Int32)) rfl (n := 15) rfl ?_
                    refine o_iadd X121 hx (hb hby d_prog_78_method_4_code_15) (v := (Int32.ofNat (pre.length + 9))) (o_suc _) (n := 16) rfl ?_
                    refine o_putfield X121 hx hZ hown (host := "") (Or.inl (hw _ (List.mem_of_getElem? (i := 47) rfl))) Via.refl e121 F108 E_108 (Or.inl (hw _ (List.mem_of_getElem? (i := 48) rfl))) (hw _ (List.mem_of_getElem? (i := 39) rfl)) (ty := .int) (by decide) rfl rfl (hb hby d_prog_78_method_4_code_16) (n := 19) rfl ?_
                    intro T122 h122 X122 e122 W122 F122 E_122
                    have f123 := f109.other W122 (Or.inr (slot_ne (Or.inr (hw _ (List.mem_of_getElem? (i := 46) rfl))) (Or.inl (hw _ (List.mem_of_getElem? (i := 48) rfl))) (by decide) (t := (.array .byte)) (t' := .int) (by decide) (by decide)))
                    have f124 := f110.other W122 pne_a2_a1
                    have zz122 : n0 ≤ h122.size := Nat.le_trans zz108 (Nat.le_of_eq W122.size.symm)
                    have N125 := Fr.snoc X122 N111 pg_a1
                    have K126 : Keep h0 h122 [a1] := K112.wr W122 (Or.inl (List.mem_of_getElem? (i := 0) rfl))
                    refine o_baload X122 hx hZ e122 f124 ((pre.length + 8)) (o_tn (by omega)) (o_rg (by omega)) (v := (.int (o_mb (o_sh (o_sh (o_sh (o_sh (o_sh (o_sh (o_sh (o_sh (o_zz p0)))))))))))) (o_nth pre post [(o_mb (o_zz p0)), (o_mb (o_sh (o_zz p0))), (o_mb (o_sh (o_sh (o_zz p0)))), (o_mb (o_sh (o_sh (o_sh (o_zz p0))))), (o_mb (o_sh (o_sh (o_sh (o_sh (o_zz p0)))))), (o_mb (o_sh (o_sh (o_sh (o_sh (o_sh (o_zz p0))))))), (o_mb (o_sh (o_sh (o_sh (o_sh (o_sh (o_sh (o_zz p0)))))))), (o_mb (o_sh (o_sh (o_sh (o_sh (o_sh (o_sh (o_sh (o_zz p0)))))))))] _ _ _ 8 rfl hn8) (hb hby d_prog_78_method_4_code_19) (n := 20) rfl ?_
                    refine o_istore X122 hx (hb hby d_prog_78_method_4_code_20) (Ls' := #[.val (.ref a1), .val (.long r_7), .second, .val (.int (56 : Int32)), .val (.int (o_mb (o_sh (o_sh (o_sh (o_sh (o_sh (o_sh (o_sh (o_sh (o_zz p0)))))))))))]) rfl (n := 22) rfl ?_
                    refine o_lloadN X122 hx (hb hby d_prog_78_method_4_code_22) (v := r_7) rfl (n := 23) rfl ?_
                    refine o_iload X122 hx (hb hby d_prog_78_method_4_code_23) (v := (o_mb (o_sh (o_sh (o_sh (o_sh (o_sh (o_sh (o_sh (o_sh (o_zz p0))))))))))) rfl (n := 25) rfl ?_
                    refine o_i2l X122 hx (hb hby d_prog_78_method_4_code_25) (v := (o_mb (o_sh (o_sh (o_sh (o_sh (o_sh (o_sh (o_sh (o_sh (o_zz p0)))))))))).toInt64) rfl (n := 26) rfl ?_
                    refine o_ldc2_w X122 hx hZ (v := (127 : Int64)) hown (hw _ (List.mem_of_getElem? (i := 54) rfl)) (hb hby d_prog_78_method_4_code_26) (n := 29) rfl ?_
                    refine o_land X122 hx (hb hby d_prog_78_method_4_code_29) (v := ((o_mb (o_sh (o_sh (o_sh (o_sh (o_sh (o_sh (o_sh (o_sh (o_zz p0)))))))))).toInt64 &&& (127 : Int64))) rfl (n := 30) rfl ?_
                    refine o_iloadN X122 hx (hb hby d_prog_78_method_4_code_30) (v := (56 : Int32)) rfl (n := 31) rfl ?_
                    refine o_lshl X122 hx (hb hby d_prog_78_method_4_code_31) (v := (((o_mb (o_sh (o_sh (o_sh (o_sh (o_sh (o_sh (o_sh (o_sh (o_zz p0)))))))))).toInt64 &&& (127 : Int64)) <<< (56 : Int64))) (congrArg (fun q : Int64 => ((o_mb (o_sh (o_sh (o_sh (o_sh (o_sh (o_sh (o_sh (o_sh (o_zz p0)))))))))).toInt64 &&& (127 : Int64)) <<< q) (show ((56 : Int32) &&& 0x3f).toInt64 = 56 by decide)) (n := 32) rfl ?_
                    refine o_lor X122 hx (hb hby d_prog_78_method_4_code_32) (v := (r_7 ||| (((o_mb (o_sh (o_sh (o_sh (o_sh (o_sh (o_sh (o_sh (o_sh (o_zz p0)))))))))).toInt64 &&& (127 : Int64)) <<< (56 : Int64)))) rfl (n := 33) rfl ?_
                    refine o_lstoreN X122 hx (hb hby d_prog_78_method_4_code_33) (Ls' := #[.val (.ref a1), .val (.long (r_7 ||| (((o_mb (o_sh (o_sh (o_sh (o_sh (o_sh (o_sh (o_sh (o_sh (o_zz p0)))))))))).toInt64 &&& (127 : Int64)) <<< (56 : Int64)))), .second, .val (.int (56 : Int32)), .val (.int (o_mb (o_sh (o_sh (o_sh (o_sh (o_sh (o_sh (o_sh (o_sh (o_zz p0)))))))))))]) rfl (n := 34) rfl ?_
                    generalize h_r_8 : (r_7 ||| (((o_mb (o_sh (o_sh (o_sh (o_sh (o_sh (o_sh (o_sh (o_sh (o_zz p0)))))))))).toInt64 &&& (127 : Int64)) <<< (56 : Int64))) = r_8
                    have hr9 := o_acc_8 (o_zz p0) hr8 h_r_8
                    refine o_iinc X122 hx (hb hby d_prog_78_method_4_code_34) (w := (63 : Int32)) rfl (by decide) (Ls' := #[.val (.ref a1), .val (.long r_8), .second, .val (.int (63 : Int32)), .val (.int (o_mb (o_sh (o_sh (o_sh (o_sh (o_sh (o_sh (o_sh (o_sh (o_zz p0)))))))))))]) rfl (n := 37) rfl ?_
                    refine o_iload X122 hx (hb hby d_prog_78_method_4_code_37) (v := (o_mb (o_sh (o_sh (o_sh (o_sh (o_sh (o_sh (o_sh (o_sh (o_zz p0))))))))))) rfl (n := 39) rfl ?_
                    refine o_sipush X122 hx (hb hby d_prog_78_method_4_code_39) (v := (128 : Int32)) rfl (n := 42) rfl ?_
                    refine o_iand X122 hx (hb hby d_prog_78_method_4_code_42) (v := ((o_mb (o_sh (o_sh (o_sh (o_sh (o_sh (o_sh (o_sh (o_sh (o_zz p0)))))))))) &&& (128 : Int32))) rfl (n := 43) rfl ?_
                    refine o_ifY X122 hx (hb hby d_prog_78_method_4_code_43) (XT.i0_ne_t (o_mb128 _)) (by decide) (n := 4) (by decide) ?_
                    have hz9 : (o_sh (o_sh (o_sh (o_sh (o_sh (o_sh (o_sh (o_sh (o_sh (o_zz p0)))))))))) &&& (-128 : Int64) = 0 := o_last p0
                    have hE : o_enc 9 (o_zz p0) = [(o_mb (o_zz p0)), (o_mb (o_sh (o_zz p0))), (o_mb (o_sh (o_sh (o_zz p0)))), (o_mb (o_sh (o_sh (o_sh (o_zz p0))))), (o_mb (o_sh (o_sh (o_sh (o_sh (o_zz p0)))))), (o_mb (o_sh (o_sh (o_sh (o_sh (o_sh (o_zz p0))))))), (o_mb (o_sh (o_sh (o_sh (o_sh (o_sh (o_sh (o_zz p0)))))))), (o_mb (o_sh (o_sh (o_sh (o_sh (o_sh (o_sh (o_sh (o_zz p0))))))))), (o_mb (o_sh (o_sh (o_sh (o_sh (o_sh (o_sh (o_sh (o_sh (o_zz p0)))))))))), (o_lb (o_sh (o_sh (o_sh (o_sh (o_sh (o_sh (o_sh (o_sh (o_sh (o_zz p0)))))))))))] := by simp [o_enc, hz0, hz1, hz2, hz3, hz4, hz5, hz6, hz7, hz8]
                    have hn9 : o_enc 9 (o_zz p0) = [(o_mb (o_zz p0)), (o_mb (o_sh (o_zz p0))), (o_mb (o_sh (o_sh (o_zz p0)))), (o_mb (o_sh (o_sh (o_sh (o_zz p0))))), (o_mb (o_sh (o_sh (o_sh (o_sh (o_zz p0)))))), (o_mb (o_sh (o_sh (o_sh (o_sh (o_sh (o_zz p0))))))), (o_mb (o_sh (o_sh (o_sh (o_sh (o_sh (o_sh (o_zz p0)))))))), (o_mb (o_sh (o_sh (o_sh (o_sh (o_sh (o_sh (o_sh (o_zz p0))))))))), (o_mb (o_sh (o_sh (o_sh (o_sh (o_sh (o_sh (o_sh (o_sh (o_zz p0))))))))))] ++ (o_lb (o_sh (o_sh (o_sh (o_sh (o_sh (o_sh (o_sh (o_sh (o_sh (o_zz p0))))))))))) :: [] := by simp [o_enc, hz0, hz1, hz2, hz3, hz4, hz5, hz6, hz7, hz8]
                    refine o_aloadN X122 hx (hb hby d_prog_78_method_4_code_4) (v := (.ref a1)) rfl rfl (n := 5) rfl ?_
                    refine o_getfield X122 hx hZ hown (host := "") (Or.inl (hw _ (List.mem_of_getElem? (i := 45) rfl))) Via.refl e122 f123 (hb hby d_prog_78_method_4_code_5) (n := 8) rfl ?_
                    intro T127 X127 e127
                    refine o_aloadN X127 hx (hb hby d_prog_78_method_4_code_8) (v := (.ref a1)) rfl rfl (n := 9) rfl ?_
                    refine o_dup X127 hx (hb hby d_prog_78_method_4_code_9) rfl (n := 10) rfl ?_
                    refine o_getfield X127 hx hZ hown (host := "") (Or.inl (hw _ (List.mem_of_getElem? (i := 47) rfl))) Via.refl e127 F122 (hb hby d_prog_78_method_4_code_10) (n := 13) rfl ?_
                    intro T128 X128 e128
                    refine o_dup_x1 X128 hx (hb hby d_prog_78_method_4_code_13) rfl rfl (n := 14) rfl ?_
                    refine o_iconst X128 hx (hb hby d_prog_78_method_4_code_14) (v := (1 : Int32)) rfl (n := 15) rfl ?_
                    refine o_iadd X128 hx (hb hby d_prog_78_method_4_code_15) (v := (Int32.ofNat (pre.length + 10))) (o_suc _) (n := 16) rfl ?_
                    refine o_putfield X128 hx hZ hown (host := "") (Or.inl (hw _ (List.mem_of_getElem? (i := 47) rfl))) Via.refl e128 F122 E_122 (Or.inl (hw _ (List.mem_of_getElem? (i := 48) rfl))) (hw _ (List.mem_of_getElem? (i := 39) rfl)) (ty := .int) (by decide) rfl rfl (hb hby d_prog_78_method_4_code_16) (n := 19) rfl ?_
                    intro T129 h129 X129 e129 W129 F129 E_129
                    have f130 := f123.other W129 (Or.inr (slot_ne (Or.inr (hw _ (List.mem_of_getElem? (i := 46) rfl))) (Or.inl (hw _ (List.mem_of_getElem? (i := 48) rfl))) (by decide) (t := (.array .byte)) (t' := .int) (by decide) (by decide)))
                    have f131 := f124.other W129 pne_a2_a1
                    have zz129 : n0 ≤ h129.size := Nat.le_trans zz122 (Nat.le_of_eq W129.size.symm)
                    have N132 := Fr.snoc X129 N125 pg_a1
                    have K133 : Keep h0 h129 [a1] := K126.wr W129 (Or.inl (List.mem_of_getElem? (i := 0) rfl))
                    refine o_baload X129 hx hZ e129 f131 ((pre.length + 9)) (o_tn (by omega)) (o_rg (by omega)) (v := (.int (o_lb (o_sh (o_sh (o_sh (o_sh (o_sh (o_sh (o_sh (o_sh (o_sh (o_zz p0))))))))))))) (o_nth pre post [(o_mb (o_zz p0)), (o_mb (o_sh (o_zz p0))), (o_mb (o_sh (o_sh (o_zz p0)))), (o_mb (o_sh (o_sh (o_sh (o_zz p0))))), (o_mb (o_sh (o_sh (o_sh (o_sh (o_zz p0)))))), (o_mb (o_sh (o_sh (o_sh (o_sh (o_sh (o_zz p0))))))), (o_mb (o_sh (o_sh (o_sh (o_sh (o_sh (o_sh (o_zz p0)))))))), (o_mb (o_sh (o_sh (o_sh (o_sh (o_sh (o_sh (o_sh (o_zz p0))))))))), (o_mb (o_sh (o_sh (o_sh (o_sh (o_sh (o_sh (o_sh (o_sh (o_zz p0))))))))))] _ _ _ 9 rfl hn9) (hb hby d_prog_78_method_4_code_19) (n := 20) rfl ?_
                    refine o_istore X129 hx (hb hby d_prog_78_method_4_code_20) (Ls' := #[.val (.ref a1), .val (.long r_8), .second, .val (.int (63 : Int32)), .val (.int (o_lb (o_sh (o_sh (o_sh (o_sh (o_sh (o_sh (o_sh (o_sh (o_sh (o_zz p0))))))))))))]) rfl (n := 22) rfl ?_
                    refine o_lloadN X129 hx (hb hby d_prog_78_method_4_code_22) (v := r_8) rfl (n := 23) rfl ?_
                    refine o_iload X129 hx (hb hby d_prog_78_method_4_code_23) (v := (o_lb (o_sh (o_sh (o_sh (o_sh (o_sh (o_sh (o_sh (o_sh (o_sh (o_zz p0)))))))))))) rfl (n := 25) rfl ?_
                    refine o_i2l X129 hx (hb hby d_prog_78_method_4_code_25) (v := (o_lb (o_sh (o_sh (o_sh (o_sh (o_sh (o_sh (o_sh (o_sh (o_sh (o_zz p0))))))))))).toInt64) rfl (n := 26) rfl ?_
                    refine o_ldc2_w X129 hx hZ (v := (127 : Int64)) hown (hw _ (List.mem_of_getElem? (i := 54) rfl)) (hb hby d_prog_78_method_4_code_26) (n := 29) rfl ?_
                    refine o_land X129 hx (hb hby d_prog_78_method_4_code_29) (v := ((o_lb (o_sh (o_sh (o_sh (o_sh (o_sh (o_sh (o_sh (o_sh (o_sh (o_zz p0))))))))))).toInt64 &&& (127 : Int64))) rfl (n := 30) rfl ?_
                    refine o_iloadN X129 hx (hb hby d_prog_78_method_4_code_30) (v := (63 : Int32)) rfl (n := 31) rfl ?_
                    refine o_lshl X129 hx (hb hby d_prog_78_method_4_code_31) (v := (((o_lb (o_sh (o_sh (o_sh (o_sh (o_sh (o_sh (o_sh (o_sh (o_sh (o_zz p0))))))))))).toInt64 &&& (127 : Int64)) <<< (63 : Int64))) (congrArg (fun q : Int64 => ((o_lb (o_sh (o_sh (o_sh (o_sh (o_sh (o_sh (o_sh (o_sh (o_sh (o_zz p0))))))))))).toInt64 &&& (127 : Int64)) <<< q) (show ((63 : Int32) &&& 0x3f).toInt64 = 63 by decide)) (n := 32) rfl ?_
                    refine o_lor X129 hx (hb hby d_prog_78_method_4_code_32) (v := (r_8 ||| (((o_lb (o_sh (o_sh (o_sh (o_sh (o_sh (o_sh (o_sh (o_sh (o_sh (o_zz p0))))))))))).toInt64 &&& (127 : Int64)) <<< (63 : Int64)))) rfl (n := 33) rfl ?_
                    refine o_lstoreN X129 hx (hb hby d_prog_78_method_4_code_33) (Ls' := #[.val (.ref a1), .val (.long (r_8 ||| (((o_lb (o_sh (o_sh (o_sh (o_sh (o_sh (o_sh (o_sh (o_sh (o_sh (o_zz p0))))))))))).toInt64 &&& (127 : Int64)) <<< (63 : Int64)))), .second, .val (.int (63 : Int32)), .val (.int (o_lb (o_sh (o_sh (o_sh (o_sh (o_sh (o_sh (o_sh (o_sh (o_sh (o_zz p0))))))))))))]) rfl (n := 34) rfl ?_
                    generalize h_r_9 : (r_8 ||| (((o_lb (o_sh (o_sh (o_sh (o_sh (o_sh (o_sh (o_sh (o_sh (o_sh (o_zz p0))))))))))).toInt64 &&& (127 : Int64)) <<< (63 : Int64))) = r_9
                    have hf : r_9 = (o_zz p0) := o_fin_9 (o_zz p0) hr9 hz9 h_r_9
                    refine o_iinc X129 hx (hb hby d_prog_78_method_4_code_34) (w := (70 : Int32)) rfl (by decide) (Ls' := #[.val (.ref a1), .val (.long r_9), .second, .val (.int (70 : Int32)), .val (.int (o_lb (o_sh (o_sh (o_sh (o_sh (o_sh (o_sh (o_sh (o_sh (o_sh (o_zz p0))))))))))))]) rfl (n := 37) rfl ?_
                    refine o_iload X129 hx (hb hby d_prog_78_method_4_code_37) (v := (o_lb (o_sh (o_sh (o_sh (o_sh (o_sh (o_sh (o_sh (o_sh (o_sh (o_zz p0)))))))))))) rfl (n := 39) rfl ?_
                    refine o_sipush X129 hx (hb hby d_prog_78_method_4_code_39) (v := (128 : Int32)) rfl (n := 42) rfl ?_
                    refine o_iand X129 hx (hb hby d_prog_78_method_4_code_42) (v := ((o_lb (o_sh (o_sh (o_sh (o_sh (o_sh (o_sh (o_sh (o_sh (o_sh (o_zz p0))))))))))) &&& (128 : Int32))) rfl (n := 43) rfl ?_
                    refine o_ifN X129 hx (hb hby d_prog_78_method_4_code_43) (XT.i0_ne_f (o_lb128 hz9)) (n := 46) rfl ?_
                    refine o_lloadN X129 hx (hb hby d_prog_78_method_4_code_46) (v := r_9) rfl (n := 47) rfl ?_
                    refine o_iconst X129 hx (hb hby d_prog_78_method_4_code_47) (v := (1 : Int32)) rfl (n := 48) rfl ?_
                    refine o_lushr X129 hx (hb hby d_prog_78_method_4_code_48) (v := (r_9.toUInt64 >>> (1 : UInt64)).toInt64) (congrArg (fun q : UInt64 => (r_9.toUInt64 >>> q).toInt64) (show ((1 : Int32) &&& 0x3f).toInt64.toUInt64 = 1 by decide)) (n := 49) rfl ?_
                    refine o_lloadN X129 hx (hb hby d_prog_78_method_4_code_49) (v := r_9) rfl (n := 50) rfl ?_
                    refine o_lconst X129 hx (hb hby d_prog_78_method_4_code_50) (v := (1 : Int64)) rfl (n := 51) rfl ?_
                    refine o_land X129 hx (hb hby d_prog_78_method_4_code_51) (v := (r_9 &&& (1 : Int64))) rfl (n := 52) rfl ?_
                    refine o_lneg X129 hx (hb hby d_prog_78_method_4_code_52) (v := (-(r_9 &&& (1 : Int64)))) rfl (n := 53) rfl ?_
                    refine o_lxor X129 hx (hb hby d_prog_78_method_4_code_53) (v := (o_un r_9)) rfl (n := 54) rfl ?_
                    have fP : Fld Z h129 a1 "com/example/estim365/estim365/formats/BytesIn" "position" "I" (.int (Int32.ofNat (pre.length + (o_enc 9 (o_zz p0)).length))) := by rw [hE]; exact F129
                    exact o_lreturn X129 hx hret hlk (hb hby d_prog_78_method_4_code_54) (by decide) (by decide) e129 ⟨(by rw [hf, o_unzz]), N132, K133, E_129, f130, fP⟩
theorem o_pd2 : parseMethodDescriptor "()V" = some ⟨[], none⟩ := by decide +kernel
theorem o_pd3 : parseMethodDescriptor "(J)V" = some ⟨[.long], none⟩ := by decide +kernel
theorem o_pd4 : parseMethodDescriptor "()[B" = some ⟨[], some (.array .byte)⟩ := by decide +kernel
theorem o_pd5 : parseMethodDescriptor "()I" = some ⟨[], some .int⟩ := by decide +kernel
theorem o_pd6 : parseMethodDescriptor "([BI)V" = some ⟨[(.array .byte), .int], none⟩ := by decide +kernel
theorem o_pd7 : parseMethodDescriptor "()J" = some ⟨[], some .long⟩ := by decide +kernel
theorem o_ef10 (m : MethodId) (p0 : Int64) (p1 : Int64) : entryFrame m #[(.long p0), (.long p1)] maxLocals = mkF m 0 #[.val (.long p0), .second, .val (.long p1), .second, .unset, .unset, .unset, .unset, .unset, .unset, .unset, .unset] [] := by first | (simp [entryFrame, mkF, argsToLocals, Value.category, maxLocals]; done) | rfl
theorem o_pn2 : plainName "com/example/estim365/estim365/formats/BytesInReadNumberPinLaw" = true := by first | (simp [plainName, overriddenIn]; done) | decide +kernel
set_option maxRecDepth 65536 in
set_option maxHeartbeats 40000000 in
theorem o_law (l : Launch) (Z : State) (a0 : Array Value) (hw : ∀ d ∈ tables_1, d.before a0 Z = true) (p0 : Int64) (p1 : Int64) (h0 : Heap) (n0 : Nat) (Z0 : n0 ≤ h0.size) :
    Does l Z x code maxLocals ret tables_1 room_1 #[(.long p0), (.long p1)] h0 (fun v h L => v = some (.int 1) ∧ Fr n0 L) := by
  refine Does.of (plainFor_of_name o_pn2) ?_
  intro p e s m below meth c T0 hx hby hml hown hnm hret hlk hZ X0 e0
  have hown : s.vm.findClass "com/example/estim365/estim365/formats/BytesInReadNumberPinLaw" = some m.cls := hown
  have hml : c.maxLocals = 12 := hml
  have hret : meth.sig.returnType = some .boolean := hret
  refine o_entry (o_ef10 m p0 p1) ?_
  have N0 := Fr.nil n0
  refine o_new X0 hx hZ hown (hw _ (List.mem_of_getElem? (i := 0) rfl)) (hw _ (List.mem_of_getElem? (i := 1) rfl)) (hw _ (List.mem_of_getElem? (i := 2) rfl)) e0 (hb hby at_0) (by decide) (by decide) (n := 3) rfl ?_
  intro T1 h1 b1 X1 e1 g1 E1 A1 D1
  have gg1 : n0 ≤ b1 := Nat.le_trans Z0 (Nat.le_of_eq g1.symm)
  have zz1 : n0 ≤ h1.size := Nat.le_trans Z0 E1.1
  have f2 : Fld Z h1 b1 "com/example/estim365/estim365/formats/BytesOut" "bytes" "[B" .null := D1 (Or.inl (hw _ (List.mem_of_getElem? (i := 11) rfl))) (ty := (.array .byte)) (by decide)
  have f3 : Fld Z h1 b1 "com/example/estim365/estim365/formats/BytesOut" "length" "I" (.int (0 : Int32)) := D1 (Or.inl (hw _ (List.mem_of_getElem? (i := 22) rfl))) (ty := .int) (by decide)
  refine o_dup X1 hx (hb hby at_3) rfl (n := 4) rfl ?_
  refine o_callN X1 hx hZ rfl hown (hw _ (List.mem_of_getElem? (i := 3) rfl)) (hw _ (List.mem_of_getElem? (i := 4) rfl)) (hw _ (List.mem_of_getElem? (i := 2) rfl)) (hw _ (List.mem_of_getElem? (i := 5) rfl)) (by decide) e1 (a := b1) (argsL := []) (rest := [(.ref b1)]) (c_init l Z a0 hw b1 h1 n0 zz1 gg1 A1 f2 f3) 1 (by decide) (by decide) (by decide) (by decide) (by rw [hml]; rfl) (lenOf o_pd2 rfl) rfl (Nat.le_of_eq rfl) (hb hby at_4) (n := 7) rfl ?_
  intro v4 T4 L4 X4 q4
  obtain ⟨n1_4, k1_4, rfl, Nq4, K4, sq4_n1, o4_0, o4_1, o4_2, o4_3⟩ := q4
  have N5 := Fr.app N0 Nq4
  have ne6 : b1 ≠ n1_4 := Nat.ne_of_lt (Nat.lt_of_lt_of_le A1.lt sq4_n1)
  have gg4_n1 : n0 ≤ n1_4 := Nat.le_trans zz1 sq4_n1
  have f7 := A1.keep K4
  have zz4 : n0 ≤ T4.heap.size := Nat.le_trans zz1 K4.1
  show Goes p e below s _ _ _ (T4.setTop (mkF m 7 #[.val (.long p0), .second, .val (.long p1), .second, .unset, .unset, .unset, .unset, .unset, .unset, .unset, .unset] [(.ref b1)]))
  refine o_astore X4 hx (hb hby at_7) rfl (Ls' := #[.val (.long p0), .second, .val (.long p1), .second, .val (.ref b1), .unset, .unset, .unset, .unset, .unset, .unset, .unset]) rfl (n := 9) rfl ?_
  refine o_aload X4 hx (hb hby at_9) (v := (.ref b1)) rfl rfl (n := 11) rfl ?_
  refine o_lloadN X4 hx (hb hby at_11) (v := p0) rfl (n := 12) rfl ?_
  refine o_callV X4 hx hZ hown (hw _ (List.mem_of_getElem? (i := 12) rfl)) (hw _ (List.mem_of_getElem? (i := 13) rfl)) (hw _ (List.mem_of_getElem? (i := 15) rfl)) (hw _ (List.mem_of_getElem? (i := 14) rfl)) (hw _ (List.mem_of_getElem? (i := 2) rfl)) (hw _ (List.mem_of_getElem? (i := 16) rfl)) (by decide) (rfl : T4.heap = T4.heap) o4_0 (argsL := [(.long p0)]) (rest := []) (c_write l Z a0 hw b1 n1_4 k1_4 p0 ([] : List Int32) T4.heap n0 zz4 gg1 gg4_n1 o4_0 o4_1 o4_2 o4_3 (Ne.symm ne6) (by decide)) 0 (by decide) (by decide) (by decide) (by decide) (by rw [hml]; rfl) (lenOf o_pd3 rfl) rfl (Nat.le_of_eq rfl) (hb hby at_12) (n := 15) rfl ?_
  intro v10 T10 L10 X10 q10
  obtain ⟨rfl, Nq10, K10, o10_0, o10_1, o10_2, o10_3⟩ := q10
  have N11 := Fr.app N5 Nq10
  have f12 := o4_0.keep K10
  have zz10 : n0 ≤ T10.heap.size := Nat.le_trans zz4 K10.1
  show Goes p e below s _ _ _ (T10.setTop (mkF m 15 #[.val (.long p0), .second, .val (.long p1), .second, .val (.ref b1), .unset, .unset, .unset, .unset, .unset, .unset, .unset] []))
  have hla := o_enclen 9 (o_zz p0)
  refine o_aload X10 hx (hb hby at_15) (v := (.ref b1)) rfl rfl (n := 17) rfl ?_
  refine o_lloadN X10 hx (hb hby at_17) (v := p1) rfl (n := 18) rfl ?_
  refine o_callV X10 hx hZ hown (hw _ (List.mem_of_getElem? (i := 12) rfl)) (hw _ (List.mem_of_getElem? (i := 13) rfl)) (hw _ (List.mem_of_getElem? (i := 15) rfl)) (hw _ (List.mem_of_getElem? (i := 14) rfl)) (hw _ (List.mem_of_getElem? (i := 2) rfl)) (hw _ (List.mem_of_getElem? (i := 16) rfl)) (by decide) (rfl : T10.heap = T10.heap) o10_0 (argsL := [(.long p1)]) (rest := []) (c_write l Z a0 hw b1 n1_4 k1_4 p1 (([] : List Int32) ++ o_enc 9 (o_zz p0)) T10.heap n0 zz10 gg1 gg4_n1 o10_0 o10_1 o10_2 o10_3 (Ne.symm ne6) (by rw [List.nil_append]; exact hla.2)) 0 (by decide) (by decide) (by decide) (by decide) (by rw [hml]; rfl) (lenOf o_pd3 rfl) rfl (Nat.le_of_eq rfl) (hb hby at_18) (n := 21) rfl ?_
  intro v16 T16 L16 X16 q16
  obtain ⟨rfl, Nq16, K16, o16_0, o16_1, o16_2, o16_3⟩ := q16
  have N17 := Fr.app N11 Nq16
  have f18 := o10_0.keep K16
  have zz16 : n0 ≤ T16.heap.size := Nat.le_trans zz10 K16.1
  show Goes p e below s _ _ _ (T16.setTop (mkF m 21 #[.val (.long p0), .second, .val (.long p1), .second, .val (.ref b1), .unset, .unset, .unset, .unset, .unset, .unset, .unset] []))
  refine o_aload X16 hx (hb hby at_21) (v := (.ref b1)) rfl rfl (n := 23) rfl ?_
  refine o_callV X16 hx hZ hown (hw _ (List.mem_of_getElem? (i := 28) rfl)) (hw _ (List.mem_of_getElem? (i := 29) rfl)) (hw _ (List.mem_of_getElem? (i := 31) rfl)) (hw _ (List.mem_of_getElem? (i := 30) rfl)) (hw _ (List.mem_of_getElem? (i := 2) rfl)) (hw _ (List.mem_of_getElem? (i := 32) rfl)) (by decide) (rfl : T16.heap = T16.heap) o16_0 (argsL := []) (rest := []) (c_array l Z a0 hw b1 n1_4 T16.heap o16_1) 0 (by decide) (by decide) (by decide) (by decide) (by rw [hml]; rfl) (lenOf o_pd4 rfl) rfl (Nat.le_of_eq rfl) (hb hby at_23) (n := 26) rfl ?_
  intro v22 T22 L22 X22 q22
  obtain ⟨rfl, e22, rfl⟩ := q22
  have N23 := Fr.app N17 (Fr.nil n0)
  show Goes p e below s _ _ _ (T22.setTop (mkF m 26 #[.val (.long p0), .second, .val (.long p1), .second, .val (.ref b1), .unset, .unset, .unset, .unset, .unset, .unset, .unset] [(.ref n1_4)]))
  refine o_astore X22 hx (hb hby at_26) rfl (Ls' := #[.val (.long p0), .second, .val (.long p1), .second, .val (.ref b1), .val (.ref n1_4), .unset, .unset, .unset, .unset, .unset, .unset]) rfl (n := 28) rfl ?_
  refine o_aload X22 hx (hb hby at_28) (v := (.ref b1)) rfl rfl (n := 30) rfl ?_
  refine o_callV X22 hx hZ hown (hw _ (List.mem_of_getElem? (i := 33) rfl)) (hw _ (List.mem_of_getElem? (i := 34) rfl)) (hw _ (List.mem_of_getElem? (i := 36) rfl)) (hw _ (List.mem_of_getElem? (i := 35) rfl)) (hw _ (List.mem_of_getElem? (i := 2) rfl)) (hw _ (List.mem_of_getElem? (i := 37) rfl)) (by decide) e22 o16_0 (argsL := []) (rest := []) (c_length l Z a0 hw b1 (Int32.ofNat ((([] : List Int32) ++ o_enc 9 (o_zz p0)) ++ o_enc 9 (o_zz p1)).length) T16.heap o16_2) 0 (by decide) (by decide) (by decide) (by decide) (by rw [hml]; rfl) (lenOf o_pd5 rfl) rfl (Nat.le_of_eq rfl) (hb hby at_30) (n := 33) rfl ?_
  intro v24 T24 L24 X24 q24
  obtain ⟨rfl, e24, rfl⟩ := q24
  have N25 := Fr.app N23 (Fr.nil n0)
  show Goes p e below s _ _ _ (T24.setTop (mkF m 33 #[.val (.long p0), .second, .val (.long p1), .second, .val (.ref b1), .val (.ref n1_4), .unset, .unset, .unset, .unset, .unset, .unset] [(.int (Int32.ofNat ((([] : List Int32) ++ o_enc 9 (o_zz p0)) ++ o_enc 9 (o_zz p1)).length))]))
  refine o_istore X24 hx (hb hby at_33) (Ls' := #[.val (.long p0), .second, .val (.long p1), .second, .val (.ref b1), .val (.ref n1_4), .val (.int (Int32.ofNat ((([] : List Int32) ++ o_enc 9 (o_zz p0)) ++ o_enc 9 (o_zz p1)).length)), .unset, .unset, .unset, .unset, .unset]) rfl (n := 35) rfl ?_
  refine o_new X24 hx hZ hown (hw _ (List.mem_of_getElem? (i := 38) rfl)) (hw _ (List.mem_of_getElem? (i := 39) rfl)) (hw _ (List.mem_of_getElem? (i := 40) rfl)) e24 (hb hby at_35) (by decide) (by decide) (n := 38) rfl ?_
  intro T26 h26 b26 X26 e26 g26 E26 A26 D26
  have ne27 : b1 ≠ b26 := Nat.ne_of_lt (Nat.lt_of_lt_of_eq o16_0.lt g26.symm)
  have ne28 : n1_4 ≠ b26 := Nat.ne_of_lt (Nat.lt_of_lt_of_eq o16_3.lt g26.symm)
  have gg26 : n0 ≤ b26 := Nat.le_trans zz16 (Nat.le_of_eq g26.symm)
  have zz26 : n0 ≤ h26.size := Nat.le_trans zz16 E26.1
  have f29 := o16_0.ext E26
  have f30 := o16_1.ext E26
  have f31 := o16_2.ext E26
  have f32 := o16_3.ext E26
  have f33 : Fld Z h26 b26 "com/example/estim365/estim365/formats/BytesIn" "bytes" "[B" .null := D26 (Or.inr (hw _ (List.mem_of_getElem? (i := 46) rfl))) (ty := (.array .byte)) (by decide)
  have f34 : Fld Z h26 b26 "com/example/estim365/estim365/formats/BytesIn" "position" "I" (.int (0 : Int32)) := D26 (Or.inl (hw _ (List.mem_of_getElem? (i := 48) rfl))) (ty := .int) (by decide)
  refine o_dup X26 hx (hb hby at_38) rfl (n := 39) rfl ?_
  refine o_aload X26 hx (hb hby at_39) (v := (.ref n1_4)) rfl rfl (n := 41) rfl ?_
  refine o_iconst X26 hx (hb hby at_41) (v := (0 : Int32)) rfl (n := 42) rfl ?_
  refine o_callN X26 hx hZ rfl hown (hw _ (List.mem_of_getElem? (i := 41) rfl)) (hw _ (List.mem_of_getElem? (i := 42) rfl)) (hw _ (List.mem_of_getElem? (i := 40) rfl)) (hw _ (List.mem_of_getElem? (i := 43) rfl)) (by decide) e26 (a := b26) (argsL := [(.ref n1_4), (.int (0 : Int32))]) (rest := [(.ref b26)]) (c_initI l Z a0 hw b26 n1_4 (0 : Int32) h26 n0 zz26 gg26 A26 f33 f34) 1 (by decide) (by decide) (by decide) (by decide) (by rw [hml]; rfl) (lenOf o_pd6 rfl) rfl (Nat.le_of_eq rfl) (hb hby at_42) (n := 45) rfl ?_
  intro v35 T35 L35 X35 q35
  obtain ⟨rfl, Nq35, K35, o35_0, o35_1, o35_2⟩ := q35
  have N36 := Fr.app N25 Nq35
  have f37 := f29.keep K35
  have f38 := f30.keep K35 (ninS ne27 nin0)
  have f39 := f31.keep K35 (ninS ne27 nin0)
  have f40 := f32.keep K35 (ninS ne28 nin0)
  have f41 := A26.keep K35
  have zz35 : n0 ≤ T35.heap.size := Nat.le_trans zz26 K35.1
  show Goes p e below s _ _ _ (T35.setTop (mkF m 45 #[.val (.long p0), .second, .val (.long p1), .second, .val (.ref b1), .val (.ref n1_4), .val (.int (Int32.ofNat ((([] : List Int32) ++ o_enc 9 (o_zz p0)) ++ o_enc 9 (o_zz p1)).length)), .unset, .unset, .unset, .unset, .unset] [(.ref b26)]))
  refine o_astore X35 hx (hb hby at_45) rfl (Ls' := #[.val (.long p0), .second, .val (.long p1), .second, .val (.ref b1), .val (.ref n1_4), .val (.int (Int32.ofNat ((([] : List Int32) ++ o_enc 9 (o_zz p0)) ++ o_enc 9 (o_zz p1)).length)), .val (.ref b26), .unset, .unset, .unset, .unset]) rfl (n := 47) rfl ?_
  have f44 : Arv Z T35.heap n1_4 k1_4 .byte (4096 : Int32) ((([] : List Int32) ++ (o_enc 9 (o_zz p0) ++ o_enc 9 (o_zz p1))).map Value.int) (.int (0 : Int32)) := by have q := f40; simp only [List.nil_append, List.append_nil, List.append_assoc] at q ⊢; exact q
  refine o_aload X35 hx (hb hby at_47) (v := (.ref b26)) rfl rfl (n := 49) rfl ?_
  refine o_callV X35 hx hZ hown (hw _ (List.mem_of_getElem? (i := 49) rfl)) (hw _ (List.mem_of_getElem? (i := 50) rfl)) (hw _ (List.mem_of_getElem? (i := 52) rfl)) (hw _ (List.mem_of_getElem? (i := 51) rfl)) (hw _ (List.mem_of_getElem? (i := 40) rfl)) (hw _ (List.mem_of_getElem? (i := 53) rfl)) (by decide) (rfl : T35.heap = T35.heap) o35_0 (argsL := []) (rest := []) (c_read l Z a0 hw b26 n1_4 k1_4 p0 ([] : List Int32) (o_enc 9 (o_zz p1)) T35.heap n0 zz35 gg26 o35_0 o35_1 o35_2 f44 ne28 (by decide)) 0 (by decide) (by decide) (by decide) (by decide) (by rw [hml]; rfl) (lenOf o_pd7 rfl) rfl (Nat.le_of_eq rfl) (hb hby at_49) (n := 52) rfl ?_
  intro v45 T45 L45 X45 q45
  obtain ⟨rfl, Nq45, K45, o45_0, o45_1, o45_2⟩ := q45
  have N46 := Fr.app N36 Nq45
  have f47 := f37.keep K45
  have f48 := f38.keep K45 (ninS ne27 nin0)
  have f49 := f39.keep K45 (ninS ne27 nin0)
  have f50 := f44.keep K45 (ninS ne28 nin0)
  have f51 := o35_0.keep K45
  have zz45 : n0 ≤ T45.heap.size := Nat.le_trans zz35 K45.1
  show Goes p e below s _ _ _ (T45.setTop (mkF m 52 #[.val (.long p0), .second, .val (.long p1), .second, .val (.ref b1), .val (.ref n1_4), .val (.int (Int32.ofNat ((([] : List Int32) ++ o_enc 9 (o_zz p0)) ++ o_enc 9 (o_zz p1)).length)), .val (.ref b26), .unset, .unset, .unset, .unset] [(.long p0)]))
  refine o_lstore X45 hx (hb hby at_52) (Ls' := #[.val (.long p0), .second, .val (.long p1), .second, .val (.ref b1), .val (.ref n1_4), .val (.int (Int32.ofNat ((([] : List Int32) ++ o_enc 9 (o_zz p0)) ++ o_enc 9 (o_zz p1)).length)), .val (.ref b26), .val (.long p0), .second, .unset, .unset]) rfl (n := 54) rfl ?_
  have f54 : Arv Z T45.heap n1_4 k1_4 .byte (4096 : Int32) ((o_enc 9 (o_zz p0) ++ (o_enc 9 (o_zz p1) ++ ([] : List Int32))).map Value.int) (.int (0 : Int32)) := by have q := f50; simp only [List.nil_append, List.append_nil, List.append_assoc] at q ⊢; exact q
  refine o_aload X45 hx (hb hby at_54) (v := (.ref b26)) rfl rfl (n := 56) rfl ?_
  have f55 : Fld Z T45.heap b26 "com/example/estim365/estim365/formats/BytesIn" "position" "I" (.int (Int32.ofNat (o_enc 9 (o_zz p0)).length)) := by have q := o45_2; simp only [List.length_nil, Nat.zero_add] at q; exact q
  refine o_callV X45 hx hZ hown (hw _ (List.mem_of_getElem? (i := 49) rfl)) (hw _ (List.mem_of_getElem? (i := 50) rfl)) (hw _ (List.mem_of_getElem? (i := 52) rfl)) (hw _ (List.mem_of_getElem? (i := 51) rfl)) (hw _ (List.mem_of_getElem? (i := 40) rfl)) (hw _ (List.mem_of_getElem? (i := 53) rfl)) (by decide) (rfl : T45.heap = T45.heap) o45_0 (argsL := []) (rest := []) (c_read l Z a0 hw b26 n1_4 k1_4 p1 (o_enc 9 (o_zz p0)) ([] : List Int32) T45.heap n0 zz45 gg26 o45_0 o45_1 f55 f54 ne28 hla.2) 0 (by decide) (by decide) (by decide) (by decide) (by rw [hml]; rfl) (lenOf o_pd7 rfl) rfl (Nat.le_of_eq rfl) (hb hby at_56) (n := 59) rfl ?_
  intro v56 T56 L56 X56 q56
  obtain ⟨rfl, Nq56, K56, o56_0, o56_1, o56_2⟩ := q56
  have N57 := Fr.app N46 Nq56
  have f58 := f47.keep K56
  have f59 := f48.keep K56 (ninS ne27 nin0)
  have f60 := f49.keep K56 (ninS ne27 nin0)
  have f61 := f54.keep K56 (ninS ne28 nin0)
  have f62 := o45_0.keep K56
  have zz56 : n0 ≤ T56.heap.size := Nat.le_trans zz45 K56.1
  show Goes p e below s _ _ _ (T56.setTop (mkF m 59 #[.val (.long p0), .second, .val (.long p1), .second, .val (.ref b1), .val (.ref n1_4), .val (.int (Int32.ofNat ((([] : List Int32) ++ o_enc 9 (o_zz p0)) ++ o_enc 9 (o_zz p1)).length)), .val (.ref b26), .val (.long p0), .second, .unset, .unset] [(.long p1)]))
  refine o_lstore X56 hx (hb hby at_59) (Ls' := #[.val (.long p0), .second, .val (.long p1), .second, .val (.ref b1), .val (.ref n1_4), .val (.int (Int32.ofNat ((([] : List Int32) ++ o_enc 9 (o_zz p0)) ++ o_enc 9 (o_zz p1)).length)), .val (.ref b26), .val (.long p0), .second, .val (.long p1), .second]) rfl (n := 61) rfl ?_
  refine o_lload X56 hx (hb hby at_61) (v := p0) rfl (n := 63) rfl ?_
  refine o_lloadN X56 hx (hb hby at_63) (v := p0) rfl (n := 64) rfl ?_
  refine o_lcmp X56 hx (hb hby at_64) (n := 65) rfl ?_
  refine o_ifN X56 hx (hb hby at_65) (XT.ll_ne_f rfl) (n := 68) rfl ?_
  refine o_lload X56 hx (hb hby at_68) (v := p1) rfl (n := 70) rfl ?_
  refine o_lloadN X56 hx (hb hby at_70) (v := p1) rfl (n := 71) rfl ?_
  refine o_lcmp X56 hx (hb hby at_71) (n := 72) rfl ?_
  refine o_ifN X56 hx (hb hby at_72) (XT.ll_ne_f rfl) (n := 75) rfl ?_
  refine o_aload X56 hx (hb hby at_75) (v := (.ref b26)) rfl rfl (n := 77) rfl ?_
  refine o_callV X56 hx hZ hown (hw _ (List.mem_of_getElem? (i := 55) rfl)) (hw _ (List.mem_of_getElem? (i := 56) rfl)) (hw _ (List.mem_of_getElem? (i := 58) rfl)) (hw _ (List.mem_of_getElem? (i := 57) rfl)) (hw _ (List.mem_of_getElem? (i := 40) rfl)) (hw _ (List.mem_of_getElem? (i := 59) rfl)) (by decide) (rfl : T56.heap = T56.heap) o56_0 (argsL := []) (rest := []) (c_pos l Z a0 hw b26 (Int32.ofNat ((o_enc 9 (o_zz p0)).length + (o_enc 9 (o_zz p1)).length)) T56.heap o56_2) 0 (by decide) (by decide) (by decide) (by decide) (by rw [hml]; rfl) (lenOf o_pd5 rfl) rfl (Nat.le_of_eq rfl) (hb hby at_77) (n := 80) rfl ?_
  intro v65 T65 L65 X65 q65
  obtain ⟨rfl, e65, rfl⟩ := q65
  have N66 := Fr.app N57 (Fr.nil n0)
  show Goes p e below s _ _ _ (T65.setTop (mkF m 80 #[.val (.long p0), .second, .val (.long p1), .second, .val (.ref b1), .val (.ref n1_4), .val (.int (Int32.ofNat ((([] : List Int32) ++ o_enc 9 (o_zz p0)) ++ o_enc 9 (o_zz p1)).length)), .val (.ref b26), .val (.long p0), .second, .val (.long p1), .second] [(.int (Int32.ofNat ((o_enc 9 (o_zz p0)).length + (o_enc 9 (o_zz p1)).length)))]))
  refine o_iload X65 hx (hb hby at_80) (v := (Int32.ofNat ((([] : List Int32) ++ o_enc 9 (o_zz p0)) ++ o_enc 9 (o_zz p1)).length)) rfl (n := 82) rfl ?_
  refine o_icmpN X65 hx (hb hby at_82) (XT.ii_ne_f (by simp [List.length_append])) (n := 85) rfl ?_
  refine o_iconst X65 hx (hb hby at_85) (v := (1 : Int32)) rfl (n := 86) rfl ?_
  refine o_goto X65 hx (hb hby at_86) (by decide) (n := 90) (by decide) ?_
  exact o_nreturn X65 hx hret hlk (t := .boolean) (by simp) (hb hby at_90) (by decide) (by decide) e65 ⟨rfl, N66⟩
set_option maxRecDepth 65536 in
set_option maxHeartbeats 40000000 in
theorem comes_1 {Post : Tables → Env → Array Value → State → Outcome → State → Prop} (hpost : ∀ tb e args s v u, (limb_1_1.after args s (.returned v) u = true ∧ limb_1_2.after args s (.returned v) u = true ∧ True) → FrameEnd s (.returned v) u (Jvm.fieldLocs frame_1_writes args s ++ Jvm.arrayLocs frame_1_arrays args s ++ Jvm.staticLocs frame_1_statics s) 16 8320 → Post tb e args s (.returned v) u) :
    ArmFor flags0 classFile x code maxLocals ret World_1 tables_1 room_1 Calls_1 rest_1 Pre_1 Post := by
  intro l hfl _ _ p e ha hc hk s m args below hf hA hF happ hP
  obtain ⟨hcalls, hrest, hpre⟩ := hP
  obtain ⟨-, -, -, hnamed, -, -, -, hat⟩ := (Spec.applies_iff hf).mp happ
  obtain ⟨hg, hn⟩ := and_e (Cond.before_iff.mp (show (Jvm.Cond.and given_1 narrow_1).before args s = true from hpre))
  obtain ⟨gv1, gv2⟩ := and_e hg
  obtain ⟨gv3, gv4⟩ := and_e gv2
  obtain ⟨w0, w1, rfl⟩ : ∃ w0 w1 : Value, args = #[w0, w1] := by
    have hs : args.size = 2 := by simpa [Cond.value, given_1] using gv1
    obtain ⟨L⟩ := args
    match L, hs with
    | [w0, w1], _ => exact ⟨w0, w1, rfl⟩
  have hw := fun d (hd : d ∈ tables_1) => atoms_spec (ws := Jvm.Cond.code x code maxLocals ret :: tables_1) hat d (List.mem_cons_of_mem _ hd)
  have hfit : Fit s := fun {y c} hc i hi => by
    obtain ⟨ha, rfl⟩ := Array.getElem?_eq_some_iff.mp hc
    have q := List.all_eq_true.mp ((Array.all_eq_true_iff_forall_mem.mp hF) _ (Array.getElem_mem ha)) i (List.mem_range.mpr hi)
    simpa [Array.getElem?_eq_getElem hi] using q
  obtain ⟨i0, ei0⟩ := isL_v gv3
  obtain rfl : w0 = (.long i0) := Option.some.inj ei0
  obtain ⟨i1, ei1⟩ := isL_v gv4
  obtain rfl : w1 = (.long i1) := Option.some.inj ei1
  obtain ⟨n, o, h1, h2, h3, _, L, rfl, ⟨rfl, N⟩, hq⟩ := o_law l s _ hw i0 i1 s.heap s.heap.size (Nat.le_refl _) p e ha hc hk s m _ below hf ((Spec.applies_iff_loose hf).mp happ).1 ⟨rfl, State.Warmed39.refl s, rfl⟩ trivial
  refine ⟨n, _, h1, h2, h3, hpost _ _ _ _ _ _ ⟨Cond.after_iff.mpr rfl, Cond.after_iff.mpr (eq_i res_at (Term.int_eval (1)) rfl), trivial⟩ ⟨hq.1, hq.2.1, (hq.2.2.sift fun y hy => Or.inr (N y hy)).mono (by decide) (by decide)⟩⟩
theorem main_1_1 : Claimed_1_1 := comes_1 fun _ _ _ _ _ _ h hF => ⟨h.1, hF⟩
theorem main_1_2 : Claimed_1_2 := comes_1 fun _ _ _ _ _ _ h hF => ⟨h.2.1, hF⟩
end Jvm.Pilot.@@N@@
namespace Jvm.Pilot.@@N@@
open Jvm Jvm.ClassFile Sem Op Lib Jvm.Free Jvm.Stand Jvm.Pilot.@@N@@.Jvm.D
/-! MADE BY PROGRAM (witnessworld.py) out of the Statement's table words and the real class files: 11 classes; the members and pool entries that the words name. The judged class is class 1, her method 1. -/
namespace start1
open Jvm.ClassFile
def u (s : String) : CpInfo := .utf8 (stringToUtf16 s)
/-- a pool by its gaps: so many unusable entries, then the entry; so many at the end -/
def gap : Nat → List CpInfo → List CpInfo
  | 0, r => r
  | n + 1, r => .unusable :: gap n r
def poolList (es : List (Nat × CpInfo)) (last : Nat) : List CpInfo := es.foldr (fun e r => gap e.1 (e.2 :: r)) (gap last [])
def pool (es : List (Nat × CpInfo)) (last : Nat) : Array CpInfo := ⟨poolList es last⟩
def fileOf (pool : Array CpInfo) (this : Nat) (attrs : Array Attribute := #[]) (ms : Array MethodInfo := #[]) (fl : Nat := 33) (sup : Nat := 0) (ifs : Array Nat := #[]) (fds : Array FieldInfo := #[]) : ClassFile where
  minorVersion := 0
  majorVersion := 65
  constantPool := pool
  accessFlags := fl
  thisClass := this
  superClass := sup
  interfaces := ifs
  fields := fds
  methods := ms
  attributes := attrs
def plain (name : String) (sup : Option ClassId) : Class where
  name := name
  kind := .ordinary
  loader := none
  accessFlags := 33
  super := sup
  interfaces := #[]
  cf := none
  fields := #[]
  methods := #[]
  instanceTypes := #[]
  staticTypes := #[]
  resolved := #[]
  callSites := []
  init := .initialized
  statics := none
  mirror := none

def pool0 : Array CpInfo := pool [(5, u "<init>"), (0, u "()V"), (1, .class_ 10), (1, u "java/lang/Object")] 113

def k0c0 : Code := { maxStack := 0, maxLocals := 1, code := object_method_1_code, exceptionTable := #[], attributes := #[] }
def k0m0 : Method := { name := "<init>", desc := "()V", sig := { parameters := [], returnType := none }, accessFlags := 1, code := some k0c0 }
/-- java/lang/Object -/
def k0 : Class := { plain "java/lang/Object" none with
  accessFlags := 33
  interfaces := #[]
  cf := some (fileOf pool0 8 #[] #[{ accessFlags := 1, nameIndex := 5, descriptorIndex := 6, attributes := #[] }] 33 0 #[] #[])
  fields := #[]
  methods := #[k0m0]
  instanceTypes := #[]
  staticTypes := #[]
  resolved := Array.replicate 124 none
  statics := none }

def pool1 : Array CpInfo := pool [(2, .class_ 4), (0, .nameAndType 5 6), (0, u "java/lang/Object"), (0, u "<init>"), (0, u "()V"), (0, .class_ 8), (0, u "com/example/estim365/estim365/formats/BytesOut"), (0, .methodref 7 3), (0, .methodref 7 11), (0, .nameAndType 12 13), (0, u "writeNumber"), (0, u "(J)V"), (0, .methodref 7 15), (0, .nameAndType 16 17), (0, u "array"), (0, u "()[B"), (0, .methodref 7 19), (0, .nameAndType 20 21), (0, u "length"), (0, u "()I"), (0, .class_ 23), (0, u "com/example/estim365/estim365/formats/BytesIn"), (0, .methodref 22 25), (0, .nameAndType 5 26), (0, u "([BI)V"), (0, .methodref 22 28), (0, .nameAndType 29 30), (0, u "readNumber"), (0, u "()J"), (0, .methodref 22 32), (0, .nameAndType 33 21), (0, u "position"), (0, .class_ 35), (0, u "com/example/estim365/estim365/formats/BytesInReadNumberPinLaw"), (2, u "law"), (0, u "(JJ)Z")] 5

def k1m0 : Method := { name := "<init>", desc := "()V", sig := { parameters := [], returnType := none }, accessFlags := 1, code := none }
def k1c1 : Code := { maxStack := 4, maxLocals := 12, code := code, exceptionTable := #[], attributes := #[] }
def k1m1 : Method := { name := "law", desc := "(JJ)Z", sig := { parameters := [.long, .long], returnType := some .boolean }, accessFlags := 9, code := some k1c1 }
/-- com/example/estim365/estim365/formats/BytesInReadNumberPinLaw -/
def k1 : Class := { plain "com/example/estim365/estim365/formats/BytesInReadNumberPinLaw" (some 0) with
  accessFlags := 49
  interfaces := #[]
  cf := some (fileOf pool1 34 #[] #[{ accessFlags := 1, nameIndex := 5, descriptorIndex := 6, attributes := #[] }, { accessFlags := 9, nameIndex := 38, descriptorIndex := 39, attributes := #[] }] 49 2 #[] #[])
  fields := #[]
  methods := #[k1m0, k1m1]
  instanceTypes := #[]
  staticTypes := #[]
  resolved := Array.replicate 45 none
  statics := none }

def pool2 : Array CpInfo := pool [(1, .class_ 2), (0, u "com/example/estim365/estim365/formats/BytesOut"), (2, .methodref 6 7), (0, .class_ 8), (0, .nameAndType 9 10), (0, u "java/lang/Object"), (0, u "<init>"), (0, u "()V"), (0, .fieldref 1 12), (0, .nameAndType 13 14), (0, u "bytes"), (0, u "[B"), (0, .fieldref 1 16), (0, .nameAndType 17 18), (0, u "length"), (0, u "I"), (0, .methodref 1 20), (0, .nameAndType 21 22), (0, u "ensure"), (0, u "(I)V"), (0, .long 18446744073709551488), (1, .long 127), (1, .long 128), (11, u "()I"), (6, u "writeNumber"), (0, u "(J)V"), (3, .class_ 53), (1, u "java/lang/Math"), (1, u "(II)I"), (31, u "()[B"), (4, .methodref 51 93), (0, .nameAndType 94 55), (0, u "addExact"), (9, u "LONG"), (0, u "B"), (2, u "BIG"), (1, u "NUMBER_BITS"), (1, u "LOW_BITS"), (0, u "J"), (0, u "MORE"), (1, u "MAX_NUMBER_BYTES"), (3, u "array")] 10

def k2c0 : Code := { maxStack := 2, maxLocals := 1, code := prog_80_method_1_code, exceptionTable := #[], attributes := #[] }
def k2m0 : Method := { name := "<init>", desc := "()V", sig := { parameters := [], returnType := none }, accessFlags := 0, code := some k2c0 }
def k2c1 : Code := { maxStack := 1, maxLocals := 1, code := prog_80_method_2_code, exceptionTable := #[], attributes := #[] }
def k2m1 : Method := { name := "length", desc := "()I", sig := { parameters := [], returnType := some .int }, accessFlags := 0, code := some k2c1 }
def k2c2 : Code := { maxStack := 1, maxLocals := 1, code := prog_80_method_3_code, exceptionTable := #[], attributes := #[] }
def k2m2 : Method := { name := "array", desc := "()[B", sig := { parameters := [], returnType := some (.array .byte) }, accessFlags := 0, code := some k2c2 }
def k2c3 : Code := { maxStack := 6, maxLocals := 5, code := prog_80_method_6_code, exceptionTable := #[], attributes := #[] }
def k2m3 : Method := { name := "writeNumber", desc := "(J)V", sig := { parameters := [.long], returnType := none }, accessFlags := 0, code := some k2c3 }
def k2c4 : Code := { maxStack := 5, maxLocals := 3, code := prog_80_method_11_code, exceptionTable := #[], attributes := #[] }
def k2m4 : Method := { name := "ensure", desc := "(I)V", sig := { parameters := [.int], returnType := none }, accessFlags := 2, code := some k2c4 }
/-- com/example/estim365/estim365/formats/BytesOut -/
def k2 : Class := { plain "com/example/estim365/estim365/formats/BytesOut" (some 0) with
  accessFlags := 32
  interfaces := #[]
  cf := some (fileOf pool2 1 #[] #[{ accessFlags := 0, nameIndex := 9, descriptorIndex := 10, attributes := #[] }, { accessFlags := 0, nameIndex := 17, descriptorIndex := 39, attributes := #[] }, { accessFlags := 0, nameIndex := 120, descriptorIndex := 87, attributes := #[] }, { accessFlags := 0, nameIndex := 46, descriptorIndex := 47, attributes := #[] }, { accessFlags := 2, nameIndex := 21, descriptorIndex := 22, attributes := #[] }] 32 6 #[] #[{ accessFlags := 24, nameIndex := 104, descriptorIndex := 105, attributes := #[] }, { accessFlags := 24, nameIndex := 108, descriptorIndex := 105, attributes := #[] }, { accessFlags := 24, nameIndex := 110, descriptorIndex := 18, attributes := #[] }, { accessFlags := 24, nameIndex := 112, descriptorIndex := 113, attributes := #[] }, { accessFlags := 24, nameIndex := 114, descriptorIndex := 18, attributes := #[] }, { accessFlags := 26, nameIndex := 116, descriptorIndex := 18, attributes := #[] }, { accessFlags := 2, nameIndex := 13, descriptorIndex := 14, attributes := #[] }, { accessFlags := 2, nameIndex := 17, descriptorIndex := 18, attributes := #[] }])
  fields := #[{ name := "LONG", type := .byte, accessFlags := 24, slot := 0, constantValue := 0 }, { name := "BIG", type := .byte, accessFlags := 24, slot := 1, constantValue := 0 }, { name := "NUMBER_BITS", type := .int, accessFlags := 24, slot := 2, constantValue := 0 }, { name := "LOW_BITS", type := .long, accessFlags := 24, slot := 3, constantValue := 0 }, { name := "MORE", type := .int, accessFlags := 24, slot := 4, constantValue := 0 }, { name := "MAX_NUMBER_BYTES", type := .int, accessFlags := 26, slot := 5, constantValue := 0 }, { name := "bytes", type := (.array .byte), accessFlags := 2, slot := 0, constantValue := 0 }, { name := "length", type := .int, accessFlags := 2, slot := 1, constantValue := 0 }]
  methods := #[k2m0, k2m1, k2m2, k2m3, k2m4]
  instanceTypes := #[(.array .byte), .int]
  staticTypes := #[.byte, .byte, .int, .long, .int, .int]
  resolved := Array.replicate 131 none
  statics := none }

def pool3 : Array CpInfo := pool [(1, .class_ 2), (0, u "java/lang/Math"), (1, .class_ 6), (1, u "java/lang/Object"), (0, u "<init>"), (0, u "()V"), (89, .class_ 100), (1, u "java/lang/Math$RandomNumberGeneratorHolder"), (71, u "negativeZeroFloatBits"), (0, u "J"), (2, u "negativeZeroDoubleBits"), (68, u "$assertionsDisabled"), (0, u "Z"), (88, u "(II)I"), (2, u "twoToTheDoubleScaleDown"), (0, u "D"), (4, u "twoToTheDoubleScaleUp"), (9, u "E"), (3, u "PI"), (2, u "TAU"), (2, u "DEGREES_TO_RADIANS"), (0, u "RADIANS_TO_DEGREES"), (27, u "addExact")] 66

def k3m0 : Method := { name := "<init>", desc := "()V", sig := { parameters := [], returnType := none }, accessFlags := 2, code := none }
def k3c1 : Code := { maxStack := 3, maxLocals := 3, code := jdk_29_method_24_code, exceptionTable := #[], attributes := #[] }
def k3m1 : Method := { name := "addExact", desc := "(II)I", sig := { parameters := [.int, .int], returnType := some .int }, accessFlags := 9, code := some k3c1 }
/-- java/lang/Math -/
def k3 : Class := { plain "java/lang/Math" (some 0) with
  accessFlags := 49
  interfaces := #[]
  cf := some (fileOf pool3 1 #[.nestMembers #[98]] #[{ accessFlags := 2, nameIndex := 7, descriptorIndex := 8, attributes := #[] }, { accessFlags := 9, nameIndex := 393, descriptorIndex := 335, attributes := #[] }] 49 4 #[] #[{ accessFlags := 25, nameIndex := 354, descriptorIndex := 339, attributes := #[] }, { accessFlags := 25, nameIndex := 358, descriptorIndex := 339, attributes := #[] }, { accessFlags := 25, nameIndex := 361, descriptorIndex := 339, attributes := #[] }, { accessFlags := 26, nameIndex := 364, descriptorIndex := 339, attributes := #[] }, { accessFlags := 26, nameIndex := 365, descriptorIndex := 339, attributes := #[] }, { accessFlags := 26, nameIndex := 172, descriptorIndex := 173, attributes := #[] }, { accessFlags := 26, nameIndex := 176, descriptorIndex := 173, attributes := #[] }, { accessFlags := 8, nameIndex := 344, descriptorIndex := 339, attributes := #[] }, { accessFlags := 8, nameIndex := 338, descriptorIndex := 339, attributes := #[] }, { accessFlags := 4120, nameIndex := 245, descriptorIndex := 246, attributes := #[] }])
  fields := #[{ name := "E", type := .double, accessFlags := 25, slot := 0, constantValue := 0 }, { name := "PI", type := .double, accessFlags := 25, slot := 1, constantValue := 0 }, { name := "TAU", type := .double, accessFlags := 25, slot := 2, constantValue := 0 }, { name := "DEGREES_TO_RADIANS", type := .double, accessFlags := 26, slot := 3, constantValue := 0 }, { name := "RADIANS_TO_DEGREES", type := .double, accessFlags := 26, slot := 4, constantValue := 0 }, { name := "negativeZeroFloatBits", type := .long, accessFlags := 26, slot := 5, constantValue := 0 }, { name := "negativeZeroDoubleBits", type := .long, accessFlags := 26, slot := 6, constantValue := 0 }, { name := "twoToTheDoubleScaleUp", type := .double, accessFlags := 8, slot := 7, constantValue := 0 }, { name := "twoToTheDoubleScaleDown", type := .double, accessFlags := 8, slot := 8, constantValue := 0 }, { name := "$assertionsDisabled", type := .boolean, accessFlags := 4120, slot := 9, constantValue := 0 }]
  methods := #[k3m0, k3m1]
  instanceTypes := #[]
  staticTypes := #[.double, .double, .double, .double, .double, .long, .long, .double, .double, .boolean]
  resolved := Array.replicate 460 none
  statics := none }

def pool4 : Array CpInfo := pool [(1, .methodref 2 3), (0, .class_ 4), (0, .nameAndType 5 6), (0, u "java/lang/Object"), (0, u "<init>"), (0, u "()V"), (0, .fieldref 8 9), (0, .class_ 10), (0, .nameAndType 11 12), (0, u "com/example/estim365/estim365/formats/BytesIn"), (0, u "bytes"), (0, u "[B"), (0, .fieldref 8 14), (0, .nameAndType 15 16), (0, u "position"), (0, u "I"), (2, .long 127), (3, u "readNumber"), (0, u "()J"), (54, u "([BI)V"), (2, u "()I")] 11

def k4c0 : Code := { maxStack := 2, maxLocals := 3, code := prog_78_method_1_code, exceptionTable := #[], attributes := #[] }
def k4m0 : Method := { name := "<init>", desc := "([BI)V", sig := { parameters := [(.array .byte), .int], returnType := none }, accessFlags := 0, code := some k4c0 }
def k4c1 : Code := { maxStack := 1, maxLocals := 1, code := prog_78_method_2_code, exceptionTable := #[], attributes := #[] }
def k4m1 : Method := { name := "position", desc := "()I", sig := { parameters := [], returnType := some .int }, accessFlags := 0, code := some k4c1 }
def k4c2 : Code := { maxStack := 6, maxLocals := 5, code := prog_78_method_4_code, exceptionTable := #[], attributes := #[] }
def k4m2 : Method := { name := "readNumber", desc := "()J", sig := { parameters := [], returnType := some .long }, accessFlags := 0, code := some k4c2 }
/-- com/example/estim365/estim365/formats/BytesIn -/
def k4 : Class := { plain "com/example/estim365/estim365/formats/BytesIn" (some 0) with
  accessFlags := 32
  interfaces := #[]
  cf := some (fileOf pool4 8 #[] #[{ accessFlags := 0, nameIndex := 5, descriptorIndex := 79, attributes := #[] }, { accessFlags := 0, nameIndex := 15, descriptorIndex := 82, attributes := #[] }, { accessFlags := 0, nameIndex := 23, descriptorIndex := 24, attributes := #[] }] 32 2 #[] #[{ accessFlags := 18, nameIndex := 11, descriptorIndex := 12, attributes := #[] }, { accessFlags := 2, nameIndex := 15, descriptorIndex := 16, attributes := #[] }])
  fields := #[{ name := "bytes", type := (.array .byte), accessFlags := 18, slot := 0, constantValue := 0 }, { name := "position", type := .int, accessFlags := 2, slot := 1, constantValue := 0 }]
  methods := #[k4m0, k4m1, k4m2]
  instanceTypes := #[(.array .byte), .int]
  staticTypes := #[]
  resolved := Array.replicate 94 none
  statics := none }

def pool5 : Array CpInfo := pool [(1, u "java/lang/Cloneable"), (0, .class_ 1), (0, u "java/lang/Object"), (0, .class_ 3)] 3

/-- java/lang/Cloneable -/
def k5 : Class := { plain "java/lang/Cloneable" (some 0) with
  accessFlags := 1537
  interfaces := #[]
  cf := some (fileOf pool5 2 #[] #[] 1537 4 #[] #[])
  fields := #[]
  methods := #[]
  instanceTypes := #[]
  staticTypes := #[]
  resolved := Array.replicate 8 none
  statics := none }

def pool6 : Array CpInfo := pool [(1, u "java/io/Serializable"), (0, .class_ 1), (0, u "java/lang/Object"), (0, .class_ 3)] 3

/-- java/io/Serializable -/
def k6 : Class := { plain "java/io/Serializable" (some 0) with
  accessFlags := 1537
  interfaces := #[]
  cf := some (fileOf pool6 2 #[] #[] 1537 4 #[] #[])
  fields := #[]
  methods := #[]
  instanceTypes := #[]
  staticTypes := #[]
  resolved := Array.replicate 8 none
  statics := none }

/-- the primitive byte -/
def k7 : Class := { plain "byte" none with kind := .primitive 'B', accessFlags := 0x411 }
/-- [B -/
def k8 : Class := { plain "[B" (some 0) with kind := .array 7 .byte, interfaces := #[5, 6], accessFlags := 1041 }

/-- the primitive int -/
def k9 : Class := { plain "int" none with kind := .primitive 'I', accessFlags := 0x411 }
/-- [I -/
def k10 : Class := { plain "[I" (some 0) with kind := .array 9 .int, interfaces := #[5, 6], accessFlags := 1041 }

def heap : Heap := #[]
def classes : Array Class := #[k0, k1, k2, k3, k4, k5, k6, k7, k8, k9, k10]
def interned : List (Array UInt16 × Addr) := []
def slotsUsed : Nat := 0
def theMethod : MethodId := ⟨1, 1⟩
def args0 : Array Value := #[.long 5, .long 5]
def aboutOver (below : List Frame) : State where
  vm := { classes := classes, interned := interned.toArray }
  heap := heap
  slotsUsed := slotsUsed
  threads := #[{ frames := .invoking theMethod args0 :: below }]
def below0 : List Frame := [.native { method := ⟨0, 0⟩, args := #[] }]
def about1 : State := aboutOver below0
def p0 : Program := .bare "" "" ""
def e0 : Env := launch0.env 0 0 0
theorem w_frames : about1.frames = Frame.invoking theMethod args0 :: below0 := rfl
set_option maxRecDepth 65536 in
theorem w_args : argsFit about1.vm theMethod args0 = true := by decide +kernel
set_option maxRecDepth 65536 in
theorem w_heap : heapFits about1 = true := by decide +kernel
set_option maxRecDepth 65536 in
theorem w_runnable : about1.curStatus? = some .runnable := by decide +kernel
set_option maxRecDepth 65536 in
theorem w_alone : about1.alone = true := by decide +kernel
set_option maxRecDepth 65536 in
theorem w_named : about1.methodNamed? x = some theMethod := by decide +kernel
set_option maxRecDepth 65536 in
theorem w_hears : about1.hears theMethod below0 = true := by decide +kernel
set_option maxRecDepth 65536 in
theorem w_ripe : about1.ripe theMethod args0 below0 = true := by decide +kernel
theorem w_running : about1.status = .running := rfl
set_option maxRecDepth 65536 in
theorem w_room : about1.hasRoom e0.platform room_1 = true :=
  launch0.hasRoom_least _ room_1 (by decide +kernel) (by decide +kernel) (by decide +kernel) (by decide +kernel) (by decide +kernel) (by decide +kernel)
theorem allAtoms_all (ts : List Jvm.Cond) (a : Array Jvm.Value) (st : Jvm.State) : (allAtoms ts).before a st = ts.all (fun c => c.before a st) := by
  induction ts with
  | nil => rfl
  | cons c t ih =>
    show (Jvm.Cond.and c (allAtoms t)).before a st = _
    rw [Jvm.Cond.before_and, ih, List.all_cons]
def words1 : List Jvm.Cond := Jvm.Cond.code x code maxLocals ret :: tables_1
/-- a 'code' word, met by the world's own term for the bytes: nothing is compared byte by byte -/
theorem code_word {y : MethodName} {bytes : ByteArray} {mx : Nat} {rt : Option FieldType} {a : Array Value} {s : State} {m : MethodId} {meth : Method} {c : Code} (h1 : s.methodNamed? y = some m) (h2 : s.vm.method? m = some meth) (h3 : meth.code = some c) (h4 : c.code = bytes)
    (h5 : (c.maxLocals == mx && c.exceptionTable.isEmpty && decide (c.maxStack ≤ mostOperands) && decide (meth.sig.returnType = rt) && !meth.locks && decide (parseMethodDescriptor y.desc = some meth.sig)) = true) : (Jvm.Cond.code y bytes mx rt).before a s = true := by
  simp only [Bool.and_eq_true, beq_iff_eq, Bool.not_eq_true', decide_eq_true_eq] at h5
  obtain ⟨⟨⟨⟨⟨g1, g2⟩, g3⟩, g4⟩, g5⟩, g6⟩ := h5
  simp [Cond.before, Cond.holds, Cond.value, h1, h2, h3, h4, g1, g2, g3, g4, g5, g6]
def isCode : Jvm.Cond → Bool
  | .code _ _ _ _ => true
  | _ => false
theorem all_split {L : List Jvm.Cond} {P : Jvm.Cond → Bool} (h1 : L.all (fun c => isCode c || P c) = true) (h2 : ∀ c ∈ L.filter isCode, P c = true) : L.all P = true := by
  refine List.all_eq_true.mpr fun c hc => ?_
  have h := List.all_eq_true.mp h1 c hc
  rcases Bool.eq_false_or_eq_true (isCode c) with hi | hi
  · exact h2 c (List.mem_filter.mpr ⟨hc, hi⟩)
  · simpa [hi] using h
set_option maxRecDepth 65536 in
theorem w_c0 : (Jvm.Cond.code x code maxLocals ret).before args0 about1 = true := code_word (m := ⟨1, 1⟩) (meth := k1m1) (c := k1c1) (by decide +kernel) rfl rfl rfl (by decide +kernel)
set_option maxRecDepth 65536 in
theorem w_c1 : (Jvm.Cond.code ({ cls := "com/example/estim365/estim365/formats/BytesOut", name := "<init>", desc := "()V" } : Jvm.MethodName) prog_80_method_1_code (1 : Nat) (Option.none : Option Jvm.ClassFile.FieldType)).before args0 about1 = true := code_word (m := ⟨2, 0⟩) (meth := k2m0) (c := k2c0) (by decide +kernel) rfl rfl rfl (by decide +kernel)
set_option maxRecDepth 65536 in
theorem w_c2 : (Jvm.Cond.code ({ cls := "java/lang/Object", name := "<init>", desc := "()V" } : Jvm.MethodName) object_method_1_code (1 : Nat) (Option.none : Option Jvm.ClassFile.FieldType)).before args0 about1 = true := code_word (m := ⟨0, 0⟩) (meth := k0m0) (c := k0c0) (by decide +kernel) rfl rfl rfl (by decide +kernel)
set_option maxRecDepth 65536 in
theorem w_c3 : (Jvm.Cond.code ({ cls := "com/example/estim365/estim365/formats/BytesOut", name := "writeNumber", desc := "(J)V" } : Jvm.MethodName) prog_80_method_6_code (5 : Nat) (Option.none : Option Jvm.ClassFile.FieldType)).before args0 about1 = true := code_word (m := ⟨2, 3⟩) (meth := k2m3) (c := k2c3) (by decide +kernel) rfl rfl rfl (by decide +kernel)
set_option maxRecDepth 65536 in
theorem w_c4 : (Jvm.Cond.code ({ cls := "com/example/estim365/estim365/formats/BytesOut", name := "ensure", desc := "(I)V" } : Jvm.MethodName) prog_80_method_11_code (3 : Nat) (Option.none : Option Jvm.ClassFile.FieldType)).before args0 about1 = true := code_word (m := ⟨2, 4⟩) (meth := k2m4) (c := k2c4) (by decide +kernel) rfl rfl rfl (by decide +kernel)
set_option maxRecDepth 65536 in
theorem w_c5 : (Jvm.Cond.code ({ cls := "java/lang/Math", name := "addExact", desc := "(II)I" } : Jvm.MethodName) jdk_29_method_24_code (3 : Nat) (Option.some Jvm.ClassFile.FieldType.int)).before args0 about1 = true := code_word (m := ⟨3, 1⟩) (meth := k3m1) (c := k3c1) (by decide +kernel) rfl rfl rfl (by decide +kernel)
set_option maxRecDepth 65536 in
theorem w_c6 : (Jvm.Cond.code ({ cls := "com/example/estim365/estim365/formats/BytesOut", name := "array", desc := "()[B" } : Jvm.MethodName) prog_80_method_3_code (1 : Nat) (Option.some (Jvm.ClassFile.FieldType.array Jvm.ClassFile.FieldType.byte))).before args0 about1 = true := code_word (m := ⟨2, 2⟩) (meth := k2m2) (c := k2c2) (by decide +kernel) rfl rfl rfl (by decide +kernel)
set_option maxRecDepth 65536 in
theorem w_c7 : (Jvm.Cond.code ({ cls := "com/example/estim365/estim365/formats/BytesOut", name := "length", desc := "()I" } : Jvm.MethodName) prog_80_method_2_code (1 : Nat) (Option.some Jvm.ClassFile.FieldType.int)).before args0 about1 = true := code_word (m := ⟨2, 1⟩) (meth := k2m1) (c := k2c1) (by decide +kernel) rfl rfl rfl (by decide +kernel)
set_option maxRecDepth 65536 in
theorem w_c8 : (Jvm.Cond.code ({ cls := "com/example/estim365/estim365/formats/BytesIn", name := "<init>", desc := "([BI)V" } : Jvm.MethodName) prog_78_method_1_code (3 : Nat) (Option.none : Option Jvm.ClassFile.FieldType)).before args0 about1 = true := code_word (m := ⟨4, 0⟩) (meth := k4m0) (c := k4c0) (by decide +kernel) rfl rfl rfl (by decide +kernel)
set_option maxRecDepth 65536 in
theorem w_c9 : (Jvm.Cond.code ({ cls := "com/example/estim365/estim365/formats/BytesIn", name := "readNumber", desc := "()J" } : Jvm.MethodName) prog_78_method_4_code (5 : Nat) (Option.some Jvm.ClassFile.FieldType.long)).before args0 about1 = true := code_word (m := ⟨4, 2⟩) (meth := k4m2) (c := k4c2) (by decide +kernel) rfl rfl rfl (by decide +kernel)
set_option maxRecDepth 65536 in
theorem w_c10 : (Jvm.Cond.code ({ cls := "com/example/estim365/estim365/formats/BytesIn", name := "position", desc := "()I" } : Jvm.MethodName) prog_78_method_2_code (1 : Nat) (Option.some Jvm.ClassFile.FieldType.int)).before args0 about1 = true := code_word (m := ⟨4, 1⟩) (meth := k4m1) (c := k4c1) (by decide +kernel) rfl rfl rfl (by decide +kernel)
def codes1 : List Jvm.Cond := [Jvm.Cond.code x code maxLocals ret, Jvm.Cond.code ({ cls := "com/example/estim365/estim365/formats/BytesOut", name := "<init>", desc := "()V" } : Jvm.MethodName) prog_80_method_1_code (1 : Nat) (Option.none : Option Jvm.ClassFile.FieldType), Jvm.Cond.code ({ cls := "java/lang/Object", name := "<init>", desc := "()V" } : Jvm.MethodName) object_method_1_code (1 : Nat) (Option.none : Option Jvm.ClassFile.FieldType), Jvm.Cond.code ({ cls := "com/example/estim365/estim365/formats/BytesOut", name := "writeNumber", desc := "(J)V" } : Jvm.MethodName) prog_80_method_6_code (5 : Nat) (Option.none : Option Jvm.ClassFile.FieldType), Jvm.Cond.code ({ cls := "com/example/estim365/estim365/formats/BytesOut", name := "ensure", desc := "(I)V" } : Jvm.MethodName) prog_80_method_11_code (3 : Nat) (Option.none : Option Jvm.ClassFile.FieldType), Jvm.Cond.code ({ cls := "java/lang/Math", name := "addExact", desc := "(II)I" } : Jvm.MethodName) jdk_29_method_24_code (3 : Nat) (Option.some Jvm.ClassFile.FieldType.int), Jvm.Cond.code ({ cls := "com/example/estim365/estim365/formats/BytesOut", name := "array", desc := "()[B" } : Jvm.MethodName) prog_80_method_3_code (1 : Nat) (Option.some (Jvm.ClassFile.FieldType.array Jvm.ClassFile.FieldType.byte)), Jvm.Cond.code ({ cls := "com/example/estim365/estim365/formats/BytesOut", name := "length", desc := "()I" } : Jvm.MethodName) prog_80_method_2_code (1 : Nat) (Option.some Jvm.ClassFile.FieldType.int), Jvm.Cond.code ({ cls := "com/example/estim365/estim365/formats/BytesIn", name := "<init>", desc := "([BI)V" } : Jvm.MethodName) prog_78_method_1_code (3 : Nat) (Option.none : Option Jvm.ClassFile.FieldType), Jvm.Cond.code ({ cls := "com/example/estim365/estim365/formats/BytesIn", name := "readNumber", desc := "()J" } : Jvm.MethodName) prog_78_method_4_code (5 : Nat) (Option.some Jvm.ClassFile.FieldType.long), Jvm.Cond.code ({ cls := "com/example/estim365/estim365/formats/BytesIn", name := "position", desc := "()I" } : Jvm.MethodName) prog_78_method_2_code (1 : Nat) (Option.some Jvm.ClassFile.FieldType.int)]
set_option maxRecDepth 65536 in
theorem codes_eq : words1.filter isCode = codes1 := rfl
theorem w_codes : ∀ c ∈ words1.filter isCode, c.before args0 about1 = true := by
  rw [codes_eq]
  intro c hc
  simp only [codes1, List.mem_cons, List.not_mem_nil, or_false] at hc
  rcases hc with rfl | rfl | rfl | rfl | rfl | rfl | rfl | rfl | rfl | rfl | rfl
  · exact w_c0
  · exact w_c1
  · exact w_c2
  · exact w_c3
  · exact w_c4
  · exact w_c5
  · exact w_c6
  · exact w_c7
  · exact w_c8
  · exact w_c9
  · exact w_c10
set_option maxRecDepth 65536 in
theorem w_t1 : (words1.take 24).all (fun c => isCode c || c.before args0 about1) = true := by decide +kernel
set_option maxRecDepth 65536 in
theorem w_t2 : ((words1.drop 24).take 24).all (fun c => isCode c || c.before args0 about1) = true := by decide +kernel
set_option maxRecDepth 65536 in
theorem w_t3 : ((words1.drop 24).drop 24).all (fun c => isCode c || c.before args0 about1) = true := by decide +kernel
theorem w_tables : (allAtoms (Jvm.Cond.code x code maxLocals ret :: tables_1)).before args0 about1 = true := by
  rw [allAtoms_all]
  show words1.all (fun c => c.before args0 about1) = true
  refine all_split ?_ w_codes
  rw [← List.take_append_drop 24 words1, List.all_append, w_t1, ← List.take_append_drop 24 (words1.drop 24), List.all_append, w_t2, w_t3]
  rfl
set_option maxRecDepth 65536 in
theorem w_case : (Jvm.Cond.and given_1 narrow_1).before args0 about1 = true := by decide +kernel
theorem w_applies : (headSpec (Jvm.Cond.code x code maxLocals ret :: tables_1) room_1).applies x e0.platform about1 = true :=
  (Spec.applies_iff w_frames).mpr ⟨w_running, w_runnable, w_alone, w_named, w_hears, w_ripe, w_room, w_tables⟩
theorem atStart : AtStart classFile x code maxLocals ret World_1 tables_1 room_1 Calls_1 rest_1 Pre_1 launch0 p0 e0 about1 theMethod args0 below0 :=
  ⟨lists_1, trivial, launch0.admits_env _ _ _, launch0.least_env, fairChoices_fair.cas, fairChoices_fair.clock, w_frames, w_args, w_heap, w_applies, trivial, trivial, w_case⟩
end start1
theorem witness_1 : WitnessClaimed_1 := ⟨start1.p0, start1.e0, start1.about1, start1.theMethod, start1.args0, start1.below0, start1.atStart⟩
end Jvm.Pilot.@@N@@
