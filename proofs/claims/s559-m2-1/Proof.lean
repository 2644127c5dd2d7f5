import JvmDerived
import JvmDerived.Pilot.@@N@@Statement
import JvmDerived.Pilot.@@N@@Code
set_option linter.unusedVariables false
set_option linter.unusedSimpArgs false
namespace Jvm.Pilot.@@N@@
open Jvm Jvm.ClassFile Sem Op Lib Jvm.Free Jvm.Stand Jvm.LawKit Jvm.RoadKit Bundle Jvm.Pilot.@@N@@.Jvm.D
section Layer
variable {p : Program} {l : Launch} {e : Env} {R : Room} {s : State} {m : MethodId} {args : Array Value} {below : List Frame} {meth : Method} {c : Code} {T : State} {locs : List Loc} {cells slots : Nat} {Q : Option Value → Heap → List Loc → Prop} {K N : Nat} {pc n : Nat} {Ls : Array Slot} {rest st : List Value} {Z : State} {a0 : Array Value} {h : Heap}
/-- from st on the invocation ends as Q says -/
def Goes (p : Program) (e : Env) (below : List Frame) (s : State) (Q : Option Value → Heap → List Loc → Prop) (K N : Nat) (st : State) : Prop :=
  ∃ s₂ o, Steps p.tables e below st s₂ ∧ s₂.status = .running ∧ Ended s₂ below o ∧ ∃ v L, o = .returned v ∧ Q v s₂.heap L ∧ FrameEnd s o s₂ L K N
theorem Goes.via {st st' : State} (g : Goes p e below s Q K N st') (h : ∀ t, Steps p.tables e below st' t → Steps p.tables e below st t) : Goes p e below s Q K N st := by
  obtain ⟨s₂, o, h1, r⟩ := g
  exact ⟨s₂, o, h _ h1, r⟩
/-- a body's contract -/
def Does (l : Launch) (Z : State) (y : MethodName) (bytes : ByteArray) (maxL : Nat) (ret : Option FieldType) (ws : List Jvm.Cond) (rm : Room) (as : Array Value) (h : Heap) (Q : Option Value → Heap → List Loc → Prop) : Prop :=
  MetFree l y (head1 (Jvm.Cond.code y bytes maxL ret :: ws) rm) (fun a U => a = as ∧ Z.Warmed39 U.vm ∧ U.heap = h) (fun _ _ _ _ _ => True) (fun _ U o U' => ∃ v L, o = .returned v ∧ Q v U'.heap L ∧ FrameEnd U o U' L rm.cells rm.slots)
theorem Does.of {y : MethodName} {bytes : ByteArray} {maxL : Nat} {ret : Option FieldType} {ws : List Jvm.Cond} {rm : Room} {as : Array Value} (hpl : plainFor y = true)
    (body : ∀ (p : Program) (e : Env) (s : State) (m : MethodId) (below : List Frame) (meth : Method) (c : Code) (T : State), p.tables.exec = Jvm.exec → c.code = bytes → c.maxLocals = maxL → s.vm.findClass y.cls = some m.cls → meth.name = y.name → meth.sig.returnType = ret → meth.locks = false → Z.Warmed39 s.vm → Stand p l e rm s m as below meth c T [] 0 0 → T.heap = h → Goes p e below s Q rm.cells rm.slots (T.setTop (entryFrame m as maxL))) : Does l Z y bytes maxL ret ws rm as h Q := by
  refine MetFree.of_bodySF hpl hisR ?_
  intro p e s m args below meth c s₁ Bd hml0 hP hK
  obtain ⟨rfl, hZ, hh⟩ := hP
  have X0 : Stand p l e rm s m args below meth c s₁ [] 0 0 := Stand.of_body Bd
  exact body p e s m below meth c s₁ Bd.exec Bd.bytes hml0 (findClass_of_methodNamed Bd.named) (name_of_methodNamed Bd.named Bd.method).1 Bd.returns Bd.notSynchronized hZ X0 (by rw [← hh, Bd.state]; rfl)
theorem o_entry {as : Array Value} {maxL : Nat} (q : entryFrame m as maxL = mkF m 0 Ls []) (g : Goes p e below s Q K N (T.setTop (mkF m 0 Ls []))) : Goes p e below s Q K N (T.setTop (entryFrame m as maxL)) := q ▸ g
theorem o_iload (X : Stand p l e R s m args below meth c T locs cells slots) (hx : p.tables.exec = Jvm.exec) {j : Nat} {v : Int32} (hd : decode c.code pc = .ok (.iload j, 2)) (hl : Ls[j]? = some (.val (.int v))) (hn : pc + 2 = n) (g : Goes p e below s Q K N (T.setTop (mkF m n Ls (.int v :: st)))) : Goes p e below s Q K N (T.setTop (mkF m pc Ls st)) := by
  subst hn
  exact g.via fun t k => XS.iload X.here hx rfl hd hl k
theorem o_iloadN (X : Stand p l e R s m args below meth c T locs cells slots) (hx : p.tables.exec = Jvm.exec) {j : Fin 4} {v : Int32} (hd : decode c.code pc = .ok (.iload_n j, 1)) (hl : Ls[j.val]? = some (.val (.int v))) (hn : pc + 1 = n) (g : Goes p e below s Q K N (T.setTop (mkF m n Ls (.int v :: st)))) : Goes p e below s Q K N (T.setTop (mkF m pc Ls st)) := by
  subst hn
  exact g.via fun t k => XS.iloadN X.here hx rfl hd hl k
theorem o_lload (X : Stand p l e R s m args below meth c T locs cells slots) (hx : p.tables.exec = Jvm.exec) {j : Nat} {v : Int64} (hd : decode c.code pc = .ok (.lload j, 2)) (hl : Ls[j]? = some (.val (.long v))) (hn : pc + 2 = n) (g : Goes p e below s Q K N (T.setTop (mkF m n Ls (.long v :: st)))) : Goes p e below s Q K N (T.setTop (mkF m pc Ls st)) := by
  subst hn
  exact g.via fun t k => XS.lload X.here hx rfl hd hl k
theorem o_lloadN (X : Stand p l e R s m args below meth c T locs cells slots) (hx : p.tables.exec = Jvm.exec) {j : Fin 4} {v : Int64} (hd : decode c.code pc = .ok (.lload_n j, 1)) (hl : Ls[j.val]? = some (.val (.long v))) (hn : pc + 1 = n) (g : Goes p e below s Q K N (T.setTop (mkF m n Ls (.long v :: st)))) : Goes p e below s Q K N (T.setTop (mkF m pc Ls st)) := by
  subst hn
  exact g.via fun t k => XS.lloadN X.here hx rfl hd hl k
theorem o_aload (X : Stand p l e R s m args below meth c T locs cells slots) (hx : p.tables.exec = Jvm.exec) {j : Nat} {v : Value} (hd : decode c.code pc = .ok (.aload j, 2)) (hl : Ls[j]? = some (.val v)) (hv : v.isRef = true) (hn : pc + 2 = n) (g : Goes p e below s Q K N (T.setTop (mkF m n Ls (v :: st)))) : Goes p e below s Q K N (T.setTop (mkF m pc Ls st)) := by
  subst hn
  exact g.via fun t k => XS.aload X.here hx rfl hd hl hv k
theorem o_aloadN (X : Stand p l e R s m args below meth c T locs cells slots) (hx : p.tables.exec = Jvm.exec) {j : Fin 4} {v : Value} (hd : decode c.code pc = .ok (.aload_n j, 1)) (hl : Ls[j.val]? = some (.val v)) (hv : v.isRef = true) (hn : pc + 1 = n) (g : Goes p e below s Q K N (T.setTop (mkF m n Ls (v :: st)))) : Goes p e below s Q K N (T.setTop (mkF m pc Ls st)) := by
  subst hn
  exact g.via fun t k => XS.aloadN X.here hx rfl hd hl hv k
theorem o_istore (X : Stand p l e R s m args below meth c T locs cells slots) (hx : p.tables.exec = Jvm.exec) {j : Nat} {v : Int32} {Ls' : Array Slot} (hd : decode c.code pc = .ok (.istore j, 2)) (hl : storeLocals Ls j (.int v) = some Ls') (hn : pc + 2 = n) (g : Goes p e below s Q K N (T.setTop (mkF m n Ls' rest))) : Goes p e below s Q K N (T.setTop (mkF m pc Ls (.int v :: rest))) := by
  subst hn
  exact g.via fun t k => XS.istore X.here hx rfl hd rfl hl k
theorem o_istoreN (X : Stand p l e R s m args below meth c T locs cells slots) (hx : p.tables.exec = Jvm.exec) {j : Fin 4} {v : Int32} {Ls' : Array Slot} (hd : decode c.code pc = .ok (.istore_n j, 1)) (hl : storeLocals Ls j.val (.int v) = some Ls') (hn : pc + 1 = n) (g : Goes p e below s Q K N (T.setTop (mkF m n Ls' rest))) : Goes p e below s Q K N (T.setTop (mkF m pc Ls (.int v :: rest))) := by
  subst hn
  exact g.via fun t k => XS.istoreN X.here hx rfl hd rfl hl k
theorem o_lstore (X : Stand p l e R s m args below meth c T locs cells slots) (hx : p.tables.exec = Jvm.exec) {j : Nat} {v : Int64} {Ls' : Array Slot} (hd : decode c.code pc = .ok (.lstore j, 2)) (hl : storeLocals Ls j (.long v) = some Ls') (hn : pc + 2 = n) (g : Goes p e below s Q K N (T.setTop (mkF m n Ls' rest))) : Goes p e below s Q K N (T.setTop (mkF m pc Ls (.long v :: rest))) := by
  subst hn
  exact g.via fun t k => XS.lstore X.here hx rfl hd rfl hl k
theorem o_lstoreN (X : Stand p l e R s m args below meth c T locs cells slots) (hx : p.tables.exec = Jvm.exec) {j : Fin 4} {v : Int64} {Ls' : Array Slot} (hd : decode c.code pc = .ok (.lstore_n j, 1)) (hl : storeLocals Ls j.val (.long v) = some Ls') (hn : pc + 1 = n) (g : Goes p e below s Q K N (T.setTop (mkF m n Ls' rest))) : Goes p e below s Q K N (T.setTop (mkF m pc Ls (.long v :: rest))) := by
  subst hn
  exact g.via fun t k => XS.lstoreN X.here hx rfl hd rfl hl k
theorem o_astore (X : Stand p l e R s m args below meth c T locs cells slots) (hx : p.tables.exec = Jvm.exec) {j : Nat} {v : Value} {Ls' : Array Slot} (hd : decode c.code pc = .ok (.astore j, 2)) (hv : v.isRef = true) (hl : storeLocals Ls j v = some Ls') (hn : pc + 2 = n) (g : Goes p e below s Q K N (T.setTop (mkF m n Ls' rest))) : Goes p e below s Q K N (T.setTop (mkF m pc Ls (v :: rest))) := by
  subst hn
  exact g.via fun t k => XS.astore X.here hx rfl hd rfl hv hl k
theorem o_astoreN (X : Stand p l e R s m args below meth c T locs cells slots) (hx : p.tables.exec = Jvm.exec) {j : Fin 4} {v : Value} {Ls' : Array Slot} (hd : decode c.code pc = .ok (.astore_n j, 1)) (hv : v.isRef = true) (hl : storeLocals Ls j.val v = some Ls') (hn : pc + 1 = n) (g : Goes p e below s Q K N (T.setTop (mkF m n Ls' rest))) : Goes p e below s Q K N (T.setTop (mkF m pc Ls (v :: rest))) := by
  subst hn
  exact g.via fun t k => XS.astoreN X.here hx rfl hd rfl hv hl k
theorem o_iinc (X : Stand p l e R s m args below meth c T locs cells slots) (hx : p.tables.exec = Jvm.exec) {j : Nat} {cst : Int} {x w : Int32} {Ls' : Array Slot} (hd : decode c.code pc = .ok (.iinc j cst, 3)) (hl : Ls[j]? = some (.val (.int x))) (hw : x + Int32.ofInt cst = w) (hl' : storeLocals Ls j (.int w) = some Ls') (hn : pc + 3 = n) (g : Goes p e below s Q K N (T.setTop (mkF m n Ls' st))) : Goes p e below s Q K N (T.setTop (mkF m pc Ls st)) := by
  subst hn
  exact g.via fun t k => XS.iinc X.here hx rfl hd hl (by rw [hw]; exact hl') k
theorem o_iconst (X : Stand p l e R s m args below meth c T locs cells slots) (hx : p.tables.exec = Jvm.exec) {i : Int} {v : Int32} (hd : decode c.code pc = .ok (.iconst i, 1)) (hv : Int32.ofInt i = v) (hn : pc + 1 = n) (g : Goes p e below s Q K N (T.setTop (mkF m n Ls (.int v :: st)))) : Goes p e below s Q K N (T.setTop (mkF m pc Ls st)) := by
  subst hn hv
  exact g.via fun t k => XS.iconst X.here hx rfl hd k
theorem o_bipush (X : Stand p l e R s m args below meth c T locs cells slots) (hx : p.tables.exec = Jvm.exec) {i : Int} {v : Int32} (hd : decode c.code pc = .ok (.bipush i, 2)) (hv : (Int8.ofInt i).toInt32 = v) (hn : pc + 2 = n) (g : Goes p e below s Q K N (T.setTop (mkF m n Ls (.int v :: st)))) : Goes p e below s Q K N (T.setTop (mkF m pc Ls st)) := by
  subst hn hv
  exact g.via fun t k => XS.bipush X.here hx rfl hd k
theorem o_sipush (X : Stand p l e R s m args below meth c T locs cells slots) (hx : p.tables.exec = Jvm.exec) {i : Int} {v : Int32} (hd : decode c.code pc = .ok (.sipush i, 3)) (hv : (Int16.ofInt i).toInt32 = v) (hn : pc + 3 = n) (g : Goes p e below s Q K N (T.setTop (mkF m n Ls (.int v :: st)))) : Goes p e below s Q K N (T.setTop (mkF m pc Ls st)) := by
  subst hn hv
  exact g.via fun t k => XS.sipush X.here hx rfl hd k
theorem o_lconst (X : Stand p l e R s m args below meth c T locs cells slots) (hx : p.tables.exec = Jvm.exec) {j : Fin 2} {v : Int64} (hd : decode c.code pc = .ok (.lconst j, 1)) (hv : Int64.ofNat j = v) (hn : pc + 1 = n) (g : Goes p e below s Q K N (T.setTop (mkF m n Ls (.long v :: st)))) : Goes p e below s Q K N (T.setTop (mkF m pc Ls st)) := by
  subst hn hv
  exact g.via fun t k => XS.lconst X.here hx rfl hd k
theorem o_aconst_null (X : Stand p l e R s m args below meth c T locs cells slots) (hx : p.tables.exec = Jvm.exec)  (hd : decode c.code pc = .ok (.aconst_null, 1)) (hn : pc + 1 = n) (g : Goes p e below s Q K N (T.setTop (mkF m n Ls (.null :: st)))) : Goes p e below s Q K N (T.setTop (mkF m pc Ls st)) := by
  subst hn
  exact g.via fun t k => XS.aconstNull X.here hx rfl hd k
theorem o_ldc (X : Stand p l e R s m args below meth c T locs cells slots) (hx : p.tables.exec = Jvm.exec)  (hZ : Z.Warmed39 s.vm) {own : String} {index : Nat} {v : Int32} (hown : s.vm.findClass own = some m.cls) (w : (Jvm.Cond.constant own index v).before a0 Z = true) (hd : decode c.code pc = .ok (.ldc index, 2)) (hn : pc + 2 = n) (g : Goes p e below s Q K N (T.setTop (mkF m n Ls (.int v :: st)))) : Goes p e below s Q K N (T.setTop (mkF m pc Ls st)) := by
  subst hn
  exact g.via fun t k => X.ldcInt hx hown (mvT hZ w) (g := mkF m pc Ls st) rfl hd t k
theorem o_ldc_w (X : Stand p l e R s m args below meth c T locs cells slots) (hx : p.tables.exec = Jvm.exec)  (hZ : Z.Warmed39 s.vm) {own : String} {index : Nat} {v : Int32} (hown : s.vm.findClass own = some m.cls) (w : (Jvm.Cond.constant own index v).before a0 Z = true) (hd : decode c.code pc = .ok (.ldc_w index, 3)) (hn : pc + 3 = n) (g : Goes p e below s Q K N (T.setTop (mkF m n Ls (.int v :: st)))) : Goes p e below s Q K N (T.setTop (mkF m pc Ls st)) := by
  subst hn
  exact g.via fun t k => X.ldcWInt hx hown (mvT hZ w) (g := mkF m pc Ls st) rfl hd t k
theorem o_ldc2_w (X : Stand p l e R s m args below meth c T locs cells slots) (hx : p.tables.exec = Jvm.exec)  (hZ : Z.Warmed39 s.vm) {own : String} {index : Nat} {v : Int64} (hown : s.vm.findClass own = some m.cls) (w : (Jvm.Cond.constantLong own index v).before a0 Z = true) (hd : decode c.code pc = .ok (.ldc2_w index, 3)) (hn : pc + 3 = n) (g : Goes p e below s Q K N (T.setTop (mkF m n Ls (.long v :: st)))) : Goes p e below s Q K N (T.setTop (mkF m pc Ls st)) := by
  subst hn
  exact g.via fun t k => X.ldc2Long hx hown (mvT hZ w) (g := mkF m pc Ls st) rfl hd t k
theorem o_iadd (X : Stand p l e R s m args below meth c T locs cells slots) (hx : p.tables.exec = Jvm.exec) {x y v : Int32} (hd : decode c.code pc = .ok (.iadd, 1)) (hv : x + y = v) (hn : pc + 1 = n) (g : Goes p e below s Q K N (T.setTop (mkF m n Ls (.int v :: rest)))) : Goes p e below s Q K N (T.setTop (mkF m pc Ls (.int y :: .int x :: rest))) := by
  subst hn hv
  exact g.via fun t k => XS.iadd X.here hx rfl hd rfl k
theorem o_isub (X : Stand p l e R s m args below meth c T locs cells slots) (hx : p.tables.exec = Jvm.exec) {x y v : Int32} (hd : decode c.code pc = .ok (.isub, 1)) (hv : x - y = v) (hn : pc + 1 = n) (g : Goes p e below s Q K N (T.setTop (mkF m n Ls (.int v :: rest)))) : Goes p e below s Q K N (T.setTop (mkF m pc Ls (.int y :: .int x :: rest))) := by
  subst hn hv
  exact g.via fun t k => XS.isub X.here hx rfl hd rfl k
theorem o_imul (X : Stand p l e R s m args below meth c T locs cells slots) (hx : p.tables.exec = Jvm.exec) {x y v : Int32} (hd : decode c.code pc = .ok (.imul, 1)) (hv : x * y = v) (hn : pc + 1 = n) (g : Goes p e below s Q K N (T.setTop (mkF m n Ls (.int v :: rest)))) : Goes p e below s Q K N (T.setTop (mkF m pc Ls (.int y :: .int x :: rest))) := by
  subst hn hv
  exact g.via fun t k => XS.imul X.here hx rfl hd rfl k
theorem o_iand (X : Stand p l e R s m args below meth c T locs cells slots) (hx : p.tables.exec = Jvm.exec) {x y v : Int32} (hd : decode c.code pc = .ok (.iand, 1)) (hv : x &&& y = v) (hn : pc + 1 = n) (g : Goes p e below s Q K N (T.setTop (mkF m n Ls (.int v :: rest)))) : Goes p e below s Q K N (T.setTop (mkF m pc Ls (.int y :: .int x :: rest))) := by
  subst hn hv
  exact g.via fun t k => XS.iand X.here hx rfl hd rfl k
theorem o_ior (X : Stand p l e R s m args below meth c T locs cells slots) (hx : p.tables.exec = Jvm.exec) {x y v : Int32} (hd : decode c.code pc = .ok (.ior, 1)) (hv : x ||| y = v) (hn : pc + 1 = n) (g : Goes p e below s Q K N (T.setTop (mkF m n Ls (.int v :: rest)))) : Goes p e below s Q K N (T.setTop (mkF m pc Ls (.int y :: .int x :: rest))) := by
  subst hn hv
  exact g.via fun t k => XS.ior X.here hx rfl hd rfl k
theorem o_ixor (X : Stand p l e R s m args below meth c T locs cells slots) (hx : p.tables.exec = Jvm.exec) {x y v : Int32} (hd : decode c.code pc = .ok (.ixor, 1)) (hv : x ^^^ y = v) (hn : pc + 1 = n) (g : Goes p e below s Q K N (T.setTop (mkF m n Ls (.int v :: rest)))) : Goes p e below s Q K N (T.setTop (mkF m pc Ls (.int y :: .int x :: rest))) := by
  subst hn hv
  exact g.via fun t k => XS.ixor X.here hx rfl hd rfl k
theorem o_ladd (X : Stand p l e R s m args below meth c T locs cells slots) (hx : p.tables.exec = Jvm.exec) {x y v : Int64} (hd : decode c.code pc = .ok (.ladd, 1)) (hv : x + y = v) (hn : pc + 1 = n) (g : Goes p e below s Q K N (T.setTop (mkF m n Ls (.long v :: rest)))) : Goes p e below s Q K N (T.setTop (mkF m pc Ls (.long y :: .long x :: rest))) := by
  subst hn hv
  exact g.via fun t k => XS.ladd X.here hx rfl hd rfl k
theorem o_lsub (X : Stand p l e R s m args below meth c T locs cells slots) (hx : p.tables.exec = Jvm.exec) {x y v : Int64} (hd : decode c.code pc = .ok (.lsub, 1)) (hv : x - y = v) (hn : pc + 1 = n) (g : Goes p e below s Q K N (T.setTop (mkF m n Ls (.long v :: rest)))) : Goes p e below s Q K N (T.setTop (mkF m pc Ls (.long y :: .long x :: rest))) := by
  subst hn hv
  exact g.via fun t k => XS.lsub X.here hx rfl hd rfl k
theorem o_lmul (X : Stand p l e R s m args below meth c T locs cells slots) (hx : p.tables.exec = Jvm.exec) {x y v : Int64} (hd : decode c.code pc = .ok (.lmul, 1)) (hv : x * y = v) (hn : pc + 1 = n) (g : Goes p e below s Q K N (T.setTop (mkF m n Ls (.long v :: rest)))) : Goes p e below s Q K N (T.setTop (mkF m pc Ls (.long y :: .long x :: rest))) := by
  subst hn hv
  exact g.via fun t k => XS.lmul X.here hx rfl hd rfl k
theorem o_land (X : Stand p l e R s m args below meth c T locs cells slots) (hx : p.tables.exec = Jvm.exec) {x y v : Int64} (hd : decode c.code pc = .ok (.land, 1)) (hv : x &&& y = v) (hn : pc + 1 = n) (g : Goes p e below s Q K N (T.setTop (mkF m n Ls (.long v :: rest)))) : Goes p e below s Q K N (T.setTop (mkF m pc Ls (.long y :: .long x :: rest))) := by
  subst hn hv
  exact g.via fun t k => XS.land X.here hx rfl hd rfl k
theorem o_lor (X : Stand p l e R s m args below meth c T locs cells slots) (hx : p.tables.exec = Jvm.exec) {x y v : Int64} (hd : decode c.code pc = .ok (.lor, 1)) (hv : x ||| y = v) (hn : pc + 1 = n) (g : Goes p e below s Q K N (T.setTop (mkF m n Ls (.long v :: rest)))) : Goes p e below s Q K N (T.setTop (mkF m pc Ls (.long y :: .long x :: rest))) := by
  subst hn hv
  exact g.via fun t k => XS.lor X.here hx rfl hd rfl k
theorem o_lxor (X : Stand p l e R s m args below meth c T locs cells slots) (hx : p.tables.exec = Jvm.exec) {x y v : Int64} (hd : decode c.code pc = .ok (.lxor, 1)) (hv : x ^^^ y = v) (hn : pc + 1 = n) (g : Goes p e below s Q K N (T.setTop (mkF m n Ls (.long v :: rest)))) : Goes p e below s Q K N (T.setTop (mkF m pc Ls (.long y :: .long x :: rest))) := by
  subst hn hv
  exact g.via fun t k => XS.lxor X.here hx rfl hd rfl k
theorem o_idiv (X : Stand p l e R s m args below meth c T locs cells slots) (hx : p.tables.exec = Jvm.exec) {x y v : Int32} (hd : decode c.code pc = .ok (.idiv, 1)) (hy : y ≠ 0) (hv : x / y = v) (hn : pc + 1 = n) (g : Goes p e below s Q K N (T.setTop (mkF m n Ls (.int v :: rest)))) : Goes p e below s Q K N (T.setTop (mkF m pc Ls (.int y :: .int x :: rest))) := by
  subst hn hv
  exact g.via fun t k => XS.idiv X.here hx rfl hd rfl hy k
theorem o_irem (X : Stand p l e R s m args below meth c T locs cells slots) (hx : p.tables.exec = Jvm.exec) {x y v : Int32} (hd : decode c.code pc = .ok (.irem, 1)) (hy : y ≠ 0) (hv : x % y = v) (hn : pc + 1 = n) (g : Goes p e below s Q K N (T.setTop (mkF m n Ls (.int v :: rest)))) : Goes p e below s Q K N (T.setTop (mkF m pc Ls (.int y :: .int x :: rest))) := by
  subst hn hv
  exact g.via fun t k => iremM X hx (g := mkF m pc Ls _) rfl hd rfl hy k
theorem o_ldiv (X : Stand p l e R s m args below meth c T locs cells slots) (hx : p.tables.exec = Jvm.exec) {x y v : Int64} (hd : decode c.code pc = .ok (.ldiv, 1)) (hy : y ≠ 0) (hv : x / y = v) (hn : pc + 1 = n) (g : Goes p e below s Q K N (T.setTop (mkF m n Ls (.long v :: rest)))) : Goes p e below s Q K N (T.setTop (mkF m pc Ls (.long y :: .long x :: rest))) := by
  subst hn hv
  exact g.via fun t k => XS.ldiv X.here hx rfl hd rfl hy k
theorem o_lrem (X : Stand p l e R s m args below meth c T locs cells slots) (hx : p.tables.exec = Jvm.exec) {x y v : Int64} (hd : decode c.code pc = .ok (.lrem, 1)) (hy : y ≠ 0) (hv : x % y = v) (hn : pc + 1 = n) (g : Goes p e below s Q K N (T.setTop (mkF m n Ls (.long v :: rest)))) : Goes p e below s Q K N (T.setTop (mkF m pc Ls (.long y :: .long x :: rest))) := by
  subst hn hv
  exact g.via fun t k => XS.lrem X.here hx rfl hd rfl hy (by rw [lrem_mod]; exact k)
theorem o_ishl (X : Stand p l e R s m args below meth c T locs cells slots) (hx : p.tables.exec = Jvm.exec) {x y v : Int32} (hd : decode c.code pc = .ok (.ishl, 1)) (hv : x <<< (y &&& 31) = v) (hn : pc + 1 = n) (g : Goes p e below s Q K N (T.setTop (mkF m n Ls (.int v :: rest)))) : Goes p e below s Q K N (T.setTop (mkF m pc Ls (.int y :: .int x :: rest))) := by
  subst hn hv
  exact g.via fun t k => XS.ishl X.here hx rfl hd rfl k
theorem o_ishr (X : Stand p l e R s m args below meth c T locs cells slots) (hx : p.tables.exec = Jvm.exec) {x y v : Int32} (hd : decode c.code pc = .ok (.ishr, 1)) (hv : x >>> (y &&& 31) = v) (hn : pc + 1 = n) (g : Goes p e below s Q K N (T.setTop (mkF m n Ls (.int v :: rest)))) : Goes p e below s Q K N (T.setTop (mkF m pc Ls (.int y :: .int x :: rest))) := by
  subst hn hv
  exact g.via fun t k => XS.ishr X.here hx rfl hd rfl k
theorem o_iushr (X : Stand p l e R s m args below meth c T locs cells slots) (hx : p.tables.exec = Jvm.exec) {x y v : Int32} (hd : decode c.code pc = .ok (.iushr, 1)) (hv : (x.toUInt32 >>> (y &&& 31).toUInt32).toInt32 = v) (hn : pc + 1 = n) (g : Goes p e below s Q K N (T.setTop (mkF m n Ls (.int v :: rest)))) : Goes p e below s Q K N (T.setTop (mkF m pc Ls (.int y :: .int x :: rest))) := by
  subst hn hv
  exact g.via fun t k => XS.iushr X.here hx rfl hd rfl k
theorem o_lshl (X : Stand p l e R s m args below meth c T locs cells slots) (hx : p.tables.exec = Jvm.exec) {x v : Int64} {y : Int32} (hd : decode c.code pc = .ok (.lshl, 1)) (hv : x <<< (y &&& 0x3f).toInt64 = v) (hn : pc + 1 = n) (g : Goes p e below s Q K N (T.setTop (mkF m n Ls (.long v :: rest)))) : Goes p e below s Q K N (T.setTop (mkF m pc Ls (.int y :: .long x :: rest))) := by
  subst hn hv
  exact g.via fun t k => XS.lshl X.here hx rfl hd rfl k
theorem o_lshr (X : Stand p l e R s m args below meth c T locs cells slots) (hx : p.tables.exec = Jvm.exec) {x v : Int64} {y : Int32} (hd : decode c.code pc = .ok (.lshr, 1)) (hv : x >>> (y &&& 0x3f).toInt64 = v) (hn : pc + 1 = n) (g : Goes p e below s Q K N (T.setTop (mkF m n Ls (.long v :: rest)))) : Goes p e below s Q K N (T.setTop (mkF m pc Ls (.int y :: .long x :: rest))) := by
  subst hn hv
  exact g.via fun t k => XS.lshr X.here hx rfl hd rfl k
theorem o_lushr (X : Stand p l e R s m args below meth c T locs cells slots) (hx : p.tables.exec = Jvm.exec) {x v : Int64} {y : Int32} (hd : decode c.code pc = .ok (.lushr, 1)) (hv : (x.toUInt64 >>> (y &&& 0x3f).toInt64.toUInt64).toInt64 = v) (hn : pc + 1 = n) (g : Goes p e below s Q K N (T.setTop (mkF m n Ls (.long v :: rest)))) : Goes p e below s Q K N (T.setTop (mkF m pc Ls (.int y :: .long x :: rest))) := by
  subst hn hv
  exact g.via fun t k => XS.lushr X.here hx rfl hd rfl k
theorem o_i2l (X : Stand p l e R s m args below meth c T locs cells slots) (hx : p.tables.exec = Jvm.exec) {x : Int32} {v : Int64} (hd : decode c.code pc = .ok (.i2l, 1)) (hv : x.toInt64 = v) (hn : pc + 1 = n) (g : Goes p e below s Q K N (T.setTop (mkF m n Ls (.long v :: rest)))) : Goes p e below s Q K N (T.setTop (mkF m pc Ls (.int x :: rest))) := by
  subst hn hv
  exact g.via fun t k => XS.i2l X.here hx rfl hd rfl k
theorem o_l2i (X : Stand p l e R s m args below meth c T locs cells slots) (hx : p.tables.exec = Jvm.exec) {x : Int64} {v : Int32} (hd : decode c.code pc = .ok (.l2i, 1)) (hv : x.toInt32 = v) (hn : pc + 1 = n) (g : Goes p e below s Q K N (T.setTop (mkF m n Ls (.int v :: rest)))) : Goes p e below s Q K N (T.setTop (mkF m pc Ls (.long x :: rest))) := by
  subst hn hv
  exact g.via fun t k => XS.l2i X.here hx rfl hd rfl k
theorem o_i2b (X : Stand p l e R s m args below meth c T locs cells slots) (hx : p.tables.exec = Jvm.exec) {x : Int32} {v : Int32} (hd : decode c.code pc = .ok (.i2b, 1)) (hv : x.toInt8.toInt32 = v) (hn : pc + 1 = n) (g : Goes p e below s Q K N (T.setTop (mkF m n Ls (.int v :: rest)))) : Goes p e below s Q K N (T.setTop (mkF m pc Ls (.int x :: rest))) := by
  subst hn hv
  exact g.via fun t k => XS.i2b X.here hx rfl hd rfl k
theorem o_i2c (X : Stand p l e R s m args below meth c T locs cells slots) (hx : p.tables.exec = Jvm.exec) {x : Int32} {v : Int32} (hd : decode c.code pc = .ok (.i2c, 1)) (hv : x.toUInt32.toUInt16.toUInt32.toInt32 = v) (hn : pc + 1 = n) (g : Goes p e below s Q K N (T.setTop (mkF m n Ls (.int v :: rest)))) : Goes p e below s Q K N (T.setTop (mkF m pc Ls (.int x :: rest))) := by
  subst hn hv
  exact g.via fun t k => XS.i2c X.here hx rfl hd rfl k
theorem o_i2s (X : Stand p l e R s m args below meth c T locs cells slots) (hx : p.tables.exec = Jvm.exec) {x : Int32} {v : Int32} (hd : decode c.code pc = .ok (.i2s, 1)) (hv : x.toInt16.toInt32 = v) (hn : pc + 1 = n) (g : Goes p e below s Q K N (T.setTop (mkF m n Ls (.int v :: rest)))) : Goes p e below s Q K N (T.setTop (mkF m pc Ls (.int x :: rest))) := by
  subst hn hv
  exact g.via fun t k => XS.i2s X.here hx rfl hd rfl k
theorem o_ineg (X : Stand p l e R s m args below meth c T locs cells slots) (hx : p.tables.exec = Jvm.exec) {x : Int32} {v : Int32} (hd : decode c.code pc = .ok (.ineg, 1)) (hv : -x = v) (hn : pc + 1 = n) (g : Goes p e below s Q K N (T.setTop (mkF m n Ls (.int v :: rest)))) : Goes p e below s Q K N (T.setTop (mkF m pc Ls (.int x :: rest))) := by
  subst hn hv
  exact g.via fun t k => XS.ineg X.here hx rfl hd rfl k
theorem o_lneg (X : Stand p l e R s m args below meth c T locs cells slots) (hx : p.tables.exec = Jvm.exec) {x : Int64} {v : Int64} (hd : decode c.code pc = .ok (.lneg, 1)) (hv : -x = v) (hn : pc + 1 = n) (g : Goes p e below s Q K N (T.setTop (mkF m n Ls (.long v :: rest)))) : Goes p e below s Q K N (T.setTop (mkF m pc Ls (.long x :: rest))) := by
  subst hn hv
  exact g.via fun t k => XS.lneg X.here hx rfl hd rfl k
theorem o_lcmp (X : Stand p l e R s m args below meth c T locs cells slots) (hx : p.tables.exec = Jvm.exec) {x y : Int64} (hd : decode c.code pc = .ok (.lcmp, 1)) (hn : pc + 1 = n) (g : Goes p e below s Q K N (T.setTop (mkF m n Ls (.int (XT.cmpL x y) :: rest)))) : Goes p e below s Q K N (T.setTop (mkF m pc Ls (.long y :: .long x :: rest))) := by
  subst hn
  exact g.via fun t k => XT.lcmp X.here hx rfl hd rfl k
theorem o_dup (X : Stand p l e R s m args below meth c T locs cells slots) (hx : p.tables.exec = Jvm.exec) {v : Value} (hd : decode c.code pc = .ok (.dup, 1)) (hv : v.category = 1) (hn : pc + 1 = n) (g : Goes p e below s Q K N (T.setTop (mkF m n Ls (v :: v :: rest)))) : Goes p e below s Q K N (T.setTop (mkF m pc Ls (v :: rest))) := by
  subst hn
  exact g.via fun t k => XS.dup X.here hx rfl hd rfl hv k
theorem o_dup_x1 (X : Stand p l e R s m args below meth c T locs cells slots) (hx : p.tables.exec = Jvm.exec) {v w : Value} (hd : decode c.code pc = .ok (.dup_x1, 1)) (hv : v.category = 1) (hw : w.category = 1) (hn : pc + 1 = n) (g : Goes p e below s Q K N (T.setTop (mkF m n Ls (v :: w :: v :: rest)))) : Goes p e below s Q K N (T.setTop (mkF m pc Ls (v :: w :: rest))) := by
  subst hn
  exact g.via fun t k => XS.dupX1 X.here hx rfl hd rfl hv hw k
theorem o_dup2 (X : Stand p l e R s m args below meth c T locs cells slots) (hx : p.tables.exec = Jvm.exec) {v w : Value} (hd : decode c.code pc = .ok (.dup2, 1)) (hv : v.category = 1) (hw : w.category = 1) (hn : pc + 1 = n) (g : Goes p e below s Q K N (T.setTop (mkF m n Ls (v :: w :: v :: w :: rest)))) : Goes p e below s Q K N (T.setTop (mkF m pc Ls (v :: w :: rest))) := by
  subst hn
  exact g.via fun t k => XT.dup2 X.here hx rfl hd rfl hv hw k
theorem o_pop (X : Stand p l e R s m args below meth c T locs cells slots) (hx : p.tables.exec = Jvm.exec) {v : Value} (hd : decode c.code pc = .ok (.pop, 1)) (hv : v.category = 1) (hn : pc + 1 = n) (g : Goes p e below s Q K N (T.setTop (mkF m n Ls rest))) : Goes p e below s Q K N (T.setTop (mkF m pc Ls (v :: rest))) := by
  subst hn
  exact g.via fun t k => XS.pop X.here hx rfl hd rfl hv k
theorem o_goto (X : Stand p l e R s m args below meth c T locs cells slots) (hx : p.tables.exec = Jvm.exec) {o : Int} (hd : decode c.code pc = .ok (.goto o, 3)) (ho : 0 ≤ (pc : Int) + o) (hn : ((pc : Int) + o).toNat = n) (g : Goes p e below s Q K N (T.setTop (mkF m n Ls st))) : Goes p e below s Q K N (T.setTop (mkF m pc Ls st)) := by
  exact g.via fun t k => XS.goto X.here hx rfl rfl hd ho hn k
theorem o_ifY (X : Stand p l e R s m args below meth c T locs cells slots) (hx : p.tables.exec = Jvm.exec) {cd : ClassFile.Cond} {x : Int32} {o : Int} (hd : decode c.code pc = .ok (.ifCond cd o, 3)) (hc : ifCond.holds cd x = true) (ho : 0 ≤ (pc : Int) + o) (hn : ((pc : Int) + o).toNat = n) (g : Goes p e below s Q K N (T.setTop (mkF m n Ls rest))) : Goes p e below s Q K N (T.setTop (mkF m pc Ls (.int x :: rest))) := by
  exact g.via fun t k => XS.ifYes X.here hx rfl rfl hd rfl hc ho hn k
theorem o_ifN (X : Stand p l e R s m args below meth c T locs cells slots) (hx : p.tables.exec = Jvm.exec) {cd : ClassFile.Cond} {x : Int32} {o : Int} (hd : decode c.code pc = .ok (.ifCond cd o, 3)) (hc : ifCond.holds cd x = false) (hn : pc + 3 = n) (g : Goes p e below s Q K N (T.setTop (mkF m n Ls rest))) : Goes p e below s Q K N (T.setTop (mkF m pc Ls (.int x :: rest))) := by
  subst hn
  exact g.via fun t k => XS.ifNo X.here hx rfl hd rfl hc k
theorem o_icmpY (X : Stand p l e R s m args below meth c T locs cells slots) (hx : p.tables.exec = Jvm.exec) {cd : ClassFile.Cond} {x y : Int32} {o : Int} (hd : decode c.code pc = .ok (.if_icmp cd o, 3)) (hc : if_icmp.holds cd x y = true) (ho : 0 ≤ (pc : Int) + o) (hn : ((pc : Int) + o).toNat = n) (g : Goes p e below s Q K N (T.setTop (mkF m n Ls rest))) : Goes p e below s Q K N (T.setTop (mkF m pc Ls (.int y :: .int x :: rest))) := by
  exact g.via fun t k => XS.icmpYes X.here hx rfl rfl hd rfl hc ho hn k
theorem o_icmpN (X : Stand p l e R s m args below meth c T locs cells slots) (hx : p.tables.exec = Jvm.exec) {cd : ClassFile.Cond} {x y : Int32} {o : Int} (hd : decode c.code pc = .ok (.if_icmp cd o, 3)) (hc : if_icmp.holds cd x y = false) (hn : pc + 3 = n) (g : Goes p e below s Q K N (T.setTop (mkF m n Ls rest))) : Goes p e below s Q K N (T.setTop (mkF m pc Ls (.int y :: .int x :: rest))) := by
  subst hn
  exact g.via fun t k => XS.icmpNo X.here hx rfl hd rfl hc k
theorem o_ifnullY (X : Stand p l e R s m args below meth c T locs cells slots) (hx : p.tables.exec = Jvm.exec) {o : Int} (hd : decode c.code pc = .ok (.ifnull o, 3)) (ho : 0 ≤ (pc : Int) + o) (hn : ((pc : Int) + o).toNat = n) (g : Goes p e below s Q K N (T.setTop (mkF m n Ls rest))) : Goes p e below s Q K N (T.setTop (mkF m pc Ls (.null :: rest))) := by
  exact g.via fun t k => XS.ifnullYes X.here hx rfl rfl hd rfl ho hn k
theorem o_ifnullN (X : Stand p l e R s m args below meth c T locs cells slots) (hx : p.tables.exec = Jvm.exec) {o : Int} {a : Addr} (hd : decode c.code pc = .ok (.ifnull o, 3)) (hn : pc + 3 = n) (g : Goes p e below s Q K N (T.setTop (mkF m n Ls rest))) : Goes p e below s Q K N (T.setTop (mkF m pc Ls (.ref a :: rest))) := by
  subst hn
  exact g.via fun t k => XS.ifnullNo X.here hx rfl hd rfl k
theorem o_ifnonnullY (X : Stand p l e R s m args below meth c T locs cells slots) (hx : p.tables.exec = Jvm.exec) {o : Int} {a : Addr} (hd : decode c.code pc = .ok (.ifnonnull o, 3)) (ho : 0 ≤ (pc : Int) + o) (hn : ((pc : Int) + o).toNat = n) (g : Goes p e below s Q K N (T.setTop (mkF m n Ls rest))) : Goes p e below s Q K N (T.setTop (mkF m pc Ls (.ref a :: rest))) := by
  exact g.via fun t k => XS.ifnonnullYes X.here hx rfl rfl hd rfl ho hn k
theorem o_ifnonnullN (X : Stand p l e R s m args below meth c T locs cells slots) (hx : p.tables.exec = Jvm.exec) {o : Int} (hd : decode c.code pc = .ok (.ifnonnull o, 3)) (hn : pc + 3 = n) (g : Goes p e below s Q K N (T.setTop (mkF m n Ls rest))) : Goes p e below s Q K N (T.setTop (mkF m pc Ls (.null :: rest))) := by
  subst hn
  exact g.via fun t k => XS.ifnonnullNo X.here hx rfl hd rfl k
theorem o_acmp (X : Stand p l e R s m args below meth c T locs cells slots) (hx : p.tables.exec = Jvm.exec) {cd : ACond} {x y : Value} {o : Int} {same : Bool} (hd : decode c.code pc = .ok (.if_acmp cd o, 3)) (h1 : x.isRef = true) (h2 : y.isRef = true) (hq : decide (x = y) = same) (ho : 0 ≤ (pc : Int) + o) (hn : n = if acV cd same = true then ((pc : Int) + o).toNat else pc + 3) (g : Goes p e below s Q K N (T.setTop (mkF m n Ls rest))) : Goes p e below s Q K N (T.setTop (mkF m pc Ls (y :: x :: rest))) := by
  exact g.via fun t k => Jvm.RoadKit.acmp X hx (g := mkF m pc Ls _) rfl h1 h2 rfl hd rfl hq ho hn k
/-! the heap -/
theorem o_getfield (X : Stand p l e R s m args below meth c T locs cells slots) (hx : p.tables.exec = Jvm.exec) (hZ : Z.Warmed39 s.vm) {own R0 O nm d host : String} {index : Nat} (hown : s.vm.findClass own = some m.cls) (w : (Jvm.Cond.fieldLink own index R0 nm d).before a0 Z = true ∨ (Jvm.Cond.fieldLinkNest own index R0 nm d host).before a0 Z = true) (via : Via Z R0 O nm d) (eT : T.heap = h) {a : Addr} {v : Value} (F : Fld Z h a O nm d v)
    (hd : decode c.code pc = .ok (.getfield index, 3)) (hn : pc + 3 = n) (k : ∀ T', Stand p l e R s m args below meth c T' locs cells slots → T'.heap = h → Goes p e below s Q K N (T'.setTop (mkF m n Ls (v :: rest)))) : Goes p e below s Q K N (T.setTop (mkF m pc Ls (.ref a :: rest))) := by
  subst hn
  obtain ⟨T', X', e', st'⟩ := getF X hx hZ hown w via eT F (g := mkF m pc Ls (.ref a :: rest)) rfl rfl hd
  exact (k T' X' e').via st'
theorem o_putfield (X : Stand p l e R s m args below meth c T locs cells slots) (hx : p.tables.exec = Jvm.exec) (hZ : Z.Warmed39 s.vm) {own R0 O nm d host C : String} {index kk : Nat} {ty : FieldType} (hown : s.vm.findClass own = some m.cls) (w : (Jvm.Cond.fieldLink own index R0 nm d).before a0 Z = true ∨ (Jvm.Cond.fieldLinkNest own index R0 nm d host).before a0 Z = true) (via : Via Z R0 O nm d) (eT : T.heap = h) {a : Addr} {v old : Value} (F : Fld Z h a O nm d old) (E : Exa Z h a C)
    (L : (Jvm.Cond.lays C O nm d).before a0 Z = true ∨ ((Jvm.Cond.laysFinal C O nm d).before a0 Z = true ∧ own = O ∧ meth.name = "<init>")) (wi : (Jvm.Cond.instantiable C kk).before a0 Z = true) (hty : parseFieldDescriptor d = some ty) (hnn : narrow ty v = v) (hf : fits ty v = true) (hd : decode c.code pc = .ok (.putfield index, 3)) (hn : pc + 3 = n)
    (k : ∀ T' h', Stand p l e R s m args below meth c T' (locs ++ [⟨a, Jvm.RoadKit.slotOf Z O nm d⟩]) cells slots → T'.heap = h' → Wr h h' a (Jvm.RoadKit.slotOf Z O nm d) v → Fld Z h' a O nm d v → Exa Z h' a C → Goes p e below s Q K N (T'.setTop (mkF m n Ls rest))) : Goes p e below s Q K N (T.setTop (mkF m pc Ls (v :: .ref a :: rest))) := by
  subst hn
  obtain ⟨T', h', X', e', W, st'⟩ := putF X hx hZ hown w via eT F E L wi hty hnn hf (g := mkF m pc Ls (v :: .ref a :: rest)) rfl rfl hd
  exact (k T' h' X' e' W (F.same W) (E.wr W)).via st'
theorem o_getstatic (X : Stand p l e R s m args below meth c T locs cells slots) (hx : p.tables.exec = Jvm.exec) (hZ : Z.Warmed39 s.vm) {own R0 O nm d host : String} {index : Nat} (hown : s.vm.findClass own = some m.cls) (w : (Jvm.Cond.fieldLink own index R0 nm d).before a0 Z = true ∨ (Jvm.Cond.fieldLinkNest own index R0 nm d host).before a0 Z = true) (via : Via Z R0 O nm d) (eT : T.heap = h) {v : Value} (F : Sta Z h O nm d v)
    (hd : decode c.code pc = .ok (.getstatic index, 3)) (hn : pc + 3 = n) (k : ∀ T', Stand p l e R s m args below meth c T' locs cells slots → T'.heap = h → Goes p e below s Q K N (T'.setTop (mkF m n Ls (v :: st)))) : Goes p e below s Q K N (T.setTop (mkF m pc Ls st)) := by
  subst hn
  obtain ⟨T', X', e', st'⟩ := getS2 X hx hZ hown w via eT F (g := mkF m pc Ls st) rfl hd
  exact (k T' X' e').via st'
theorem o_new (X : Stand p l e R s m args below meth c T locs cells slots) (hx : p.tables.exec = Jvm.exec) (hZ : Z.Warmed39 s.vm) {own C : String} {index kk : Nat} (hown : s.vm.findClass own = some m.cls) (w : (Jvm.Cond.classLink own index C).before a0 Z = true) (wi : (Jvm.Cond.instantiable C kk).before a0 Z = true) (wz : (Jvm.Cond.initialized C).before a0 Z = true) (eT : T.heap = h)
    (hd : decode c.code pc = .ok (.new index, 3)) (hc : cells + 1 ≤ R.cells) (hs : slots + kk ≤ R.slots) (hn : pc + 3 = n)
    (k : ∀ T' h' a, Stand p l e R s m args below meth c T' locs (cells + 1) (slots + kk) → T'.heap = h' → a = h.size → Ext h h' → Exa Z h' a C → (∀ {O nm d : String} {ty : FieldType}, Laid Z a0 C O nm d → parseFieldDescriptor d = some ty → Fld Z h' a O nm d (defaultValue ty)) → Goes p e below s Q K N (T'.setTop (mkF m n Ls (.ref a :: st)))) : Goes p e below s Q K N (T.setTop (mkF m pc Ls st)) := by
  subst hn
  obtain ⟨T', h', X', e', E, A, D, -, st'⟩ := newO X hx hZ hown w wi wz eT (g := mkF m pc Ls st) rfl hd hc hs
  exact (k T' h' _ X' e' rfl E A D).via st'
theorem o_newarray (X : Stand p l e R s m args below meth c T locs cells slots) (hx : p.tables.exec = Jvm.exec) (hZ : Z.Warmed39 s.vm) {aty : ArrayType} (w : (Jvm.Cond.arrayClass (newarray.typeOf aty)).before a0 Z = true) (eT : T.heap = h) {z : Int32} (hd : decode c.code pc = .ok (.newarray aty, 2)) (hz : ¬ z < 0) (cap : Nat) (hcap : z.toNatClampNeg ≤ cap) (hb : cap * 8 ≤ 536870912) (hc : cells + 1 ≤ R.cells) (hs : slots + cap ≤ R.slots) (hn : pc + 2 = n)
    (k : ∀ T' h' a cA, Stand p l e R s m args below meth c T' locs (cells + 1) (slots + cap) → T'.heap = h' → a = h.size → Ext h h' → Arv Z h' a cA (newarray.typeOf aty) z [] (defaultValue (newarray.typeOf aty)) → Goes p e below s Q K N (T'.setTop (mkF m n Ls (.ref a :: rest)))) : Goes p e below s Q K N (T.setTop (mkF m pc Ls (.int z :: rest))) := by
  subst hn
  obtain ⟨T', h', cA, X', e', E, A, st'⟩ := newP X hx hZ w eT (g := mkF m pc Ls (.int z :: rest)) rfl hd rfl hz hcap hb hc hs
  exact (k T' h' _ cA X' e' rfl E (Arv.new A hz)).via st'
theorem o_arraylength (X : Stand p l e R s m args below meth c T locs cells slots) (hx : p.tables.exec = Jvm.exec) (hZ : Z.Warmed39 s.vm) (eT : T.heap = h) {a : Addr} {k : ClassId} {ty : FieldType} {z : Int32} {vs : List Value} {dv : Value} (V : Arv Z h a k ty z vs dv) (hd : decode c.code pc = .ok (.arraylength, 1)) (hn : pc + 1 = n) (g : Goes p e below s Q K N (T.setTop (mkF m n Ls (.int z :: rest)))) : Goes p e below s Q K N (T.setTop (mkF m pc Ls (.ref a :: rest))) := by
  subst hn
  obtain ⟨cl, A, -, S, M, -, -⟩ := V
  refine g.via fun t k => X.arraylength hx (by rw [eT]; exact A.1) (State.isArrayOf_alike hZ.alike A.2.1) (g := mkF m pc Ls (.ref a :: rest)) rfl rfl hd t ?_
  rw [len_of S M]; exact k
theorem o_iaload (X : Stand p l e R s m args below meth c T locs cells slots) (hx : p.tables.exec = Jvm.exec) (hZ : Z.Warmed39 s.vm) (eT : T.heap = h) {a : Addr} {k : ClassId} {z j : Int32} {vs : List Value} {dv v : Value} (V : Arv Z h a k .int z vs dv) (i : Nat) (hi : j.toNatClampNeg = i) (hj : ¬ j < 0 ∧ j < z) (hv : vs.getD i dv = v) (hd : decode c.code pc = .ok (.iaload, 1)) (hn : pc + 1 = n) (g : Goes p e below s Q K N (T.setTop (mkF m n Ls (v :: rest)))) : Goes p e below s Q K N (T.setTop (mkF m pc Ls (.int j :: .ref a :: rest))) := by
  subst hn hi
  obtain ⟨cl, A, -, S, M, H, -⟩ := V
  exact g.via fun t k => X.iaload hx (by rw [eT]; exact A.1) (State.isArrayOf_alike hZ.alike A.2.1) A.2.2 (inb_of S hj) (Has.at H (inb_of S hj) hv) (g := mkF m pc Ls (.int j :: .ref a :: rest)) rfl rfl hd t k
theorem o_laload (X : Stand p l e R s m args below meth c T locs cells slots) (hx : p.tables.exec = Jvm.exec) (hZ : Z.Warmed39 s.vm) (eT : T.heap = h) {a : Addr} {k : ClassId} {z j : Int32} {vs : List Value} {dv v : Value} (V : Arv Z h a k .long z vs dv) (i : Nat) (hi : j.toNatClampNeg = i) (hj : ¬ j < 0 ∧ j < z) (hv : vs.getD i dv = v) (hd : decode c.code pc = .ok (.laload, 1)) (hn : pc + 1 = n) (g : Goes p e below s Q K N (T.setTop (mkF m n Ls (v :: rest)))) : Goes p e below s Q K N (T.setTop (mkF m pc Ls (.int j :: .ref a :: rest))) := by
  subst hn hi
  obtain ⟨cl, A, -, S, M, H, -⟩ := V
  exact g.via fun t k => X.laload hx (by rw [eT]; exact A.1) (State.isArrayOf_alike hZ.alike A.2.1) A.2.2 (inb_of S hj) (Has.at H (inb_of S hj) hv) (g := mkF m pc Ls (.int j :: .ref a :: rest)) rfl rfl hd t k
theorem o_baload (X : Stand p l e R s m args below meth c T locs cells slots) (hx : p.tables.exec = Jvm.exec) (hZ : Z.Warmed39 s.vm) (eT : T.heap = h) {a : Addr} {k : ClassId} {z j : Int32} {vs : List Value} {dv v : Value} (V : Arv Z h a k .byte z vs dv) (i : Nat) (hi : j.toNatClampNeg = i) (hj : ¬ j < 0 ∧ j < z) (hv : vs.getD i dv = v) (hd : decode c.code pc = .ok (.baload, 1)) (hn : pc + 1 = n) (g : Goes p e below s Q K N (T.setTop (mkF m n Ls (v :: rest)))) : Goes p e below s Q K N (T.setTop (mkF m pc Ls (.int j :: .ref a :: rest))) := by
  subst hn hi
  obtain ⟨cl, A, -, S, M, H, -⟩ := V
  exact g.via fun t k => X.baloadBytes hx (by rw [eT]; exact A.1) (State.isArrayOf_alike hZ.alike A.2.1) A.2.2 (inb_of S hj) (Has.at H (inb_of S hj) hv) (g := mkF m pc Ls (.int j :: .ref a :: rest)) rfl rfl hd t k
theorem o_baloadZ (X : Stand p l e R s m args below meth c T locs cells slots) (hx : p.tables.exec = Jvm.exec) (hZ : Z.Warmed39 s.vm) (eT : T.heap = h) {a : Addr} {k : ClassId} {z j : Int32} {vs : List Value} {dv v : Value} (V : Arv Z h a k .boolean z vs dv) (i : Nat) (hi : j.toNatClampNeg = i) (hj : ¬ j < 0 ∧ j < z) (hv : vs.getD i dv = v) (hd : decode c.code pc = .ok (.baload, 1)) (hn : pc + 1 = n) (g : Goes p e below s Q K N (T.setTop (mkF m n Ls (v :: rest)))) : Goes p e below s Q K N (T.setTop (mkF m pc Ls (.int j :: .ref a :: rest))) := by
  subst hn hi
  obtain ⟨cl, A, -, S, M, H, -⟩ := V
  exact g.via fun t k => X.baloadBooleans hx (by rw [eT]; exact A.1) (State.isArrayOf_alike hZ.alike A.2.1) A.2.2 (inb_of S hj) (Has.at H (inb_of S hj) hv) (g := mkF m pc Ls (.int j :: .ref a :: rest)) rfl rfl hd t k
theorem o_aaload (X : Stand p l e R s m args below meth c T locs cells slots) (hx : p.tables.exec = Jvm.exec) (hZ : Z.Warmed39 s.vm) (eT : T.heap = h) {a : Addr} {k : ClassId} {ty : FieldType} {z j : Int32} {vs : List Value} {dv v : Value} (V : Arv Z h a k ty z vs dv) (hty : ty.isReference = true) (i : Nat) (hi : j.toNatClampNeg = i) (hj : ¬ j < 0 ∧ j < z) (hv : vs.getD i dv = v) (hd : decode c.code pc = .ok (.aaload, 1)) (hn : pc + 1 = n) (g : Goes p e below s Q K N (T.setTop (mkF m n Ls (v :: rest)))) : Goes p e below s Q K N (T.setTop (mkF m pc Ls (.int j :: .ref a :: rest))) := by
  subst hn hi
  obtain ⟨cl, A, -, S, M, H, -⟩ := V
  exact g.via fun t k => X.aaload hx (by rw [eT]; exact A.1) (State.isArrayOf_alike hZ.alike A.2.1) hty A.2.2 (inb_of S hj) (Has.at H (inb_of S hj) hv) (g := mkF m pc Ls (.int j :: .ref a :: rest)) rfl rfl hd t k
theorem o_iastore (X : Stand p l e R s m args below meth c T locs cells slots) (hx : p.tables.exec = Jvm.exec) (hZ : Z.Warmed39 s.vm) (eT : T.heap = h) {a : Addr} {k : ClassId} {z j : Int32} {x : Int32} {vs vs' : List Value} {dv w : Value} (V : Arv Z h a k .int z vs dv) (i : Nat) (hi : j.toNatClampNeg = i) (hj : ¬ j < 0 ∧ j < z) (hlen : i < vs.length) (hw : (.int x) = w) (hvs : vs.set i w = vs') (hd : decode c.code pc = .ok (.iastore, 1)) (hn : pc + 1 = n)
    (g : ∀ T' h', Stand p l e R s m args below meth c T' (locs ++ [⟨a, j.toNatClampNeg⟩]) cells slots → T'.heap = h' → Wr h h' a j.toNatClampNeg w → Arv Z h' a k .int z vs' dv → Goes p e below s Q K N (T'.setTop (mkF m n Ls rest))) : Goes p e below s Q K N (T.setTop (mkF m pc Ls (.int x :: .int j :: .ref a :: rest))) := by
  subst hn hvs hw
  obtain ⟨cl, A, q1, S, M, H, G⟩ := V
  obtain ⟨T', h', X', e', W, st'⟩ := stI X hx hZ eT A (j := j) (inb_of S hj) (g := mkF m pc Ls (.int x :: .int j :: .ref a :: rest)) rfl rfl hd
  exact (g T' h' X' e' W (Arv.set A q1 S M H G rfl W i hi hlen)).via st'
theorem o_lastore (X : Stand p l e R s m args below meth c T locs cells slots) (hx : p.tables.exec = Jvm.exec) (hZ : Z.Warmed39 s.vm) (eT : T.heap = h) {a : Addr} {k : ClassId} {z j : Int32} {x : Int64} {vs vs' : List Value} {dv w : Value} (V : Arv Z h a k .long z vs dv) (i : Nat) (hi : j.toNatClampNeg = i) (hj : ¬ j < 0 ∧ j < z) (hlen : i < vs.length) (hw : (.long x) = w) (hvs : vs.set i w = vs') (hd : decode c.code pc = .ok (.lastore, 1)) (hn : pc + 1 = n)
    (g : ∀ T' h', Stand p l e R s m args below meth c T' (locs ++ [⟨a, j.toNatClampNeg⟩]) cells slots → T'.heap = h' → Wr h h' a j.toNatClampNeg w → Arv Z h' a k .long z vs' dv → Goes p e below s Q K N (T'.setTop (mkF m n Ls rest))) : Goes p e below s Q K N (T.setTop (mkF m pc Ls (.long x :: .int j :: .ref a :: rest))) := by
  subst hn hvs hw
  obtain ⟨cl, A, q1, S, M, H, G⟩ := V
  obtain ⟨T', h', X', e', W, st'⟩ := stJ X hx hZ eT A (j := j) (inb_of S hj) (g := mkF m pc Ls (.long x :: .int j :: .ref a :: rest)) rfl rfl hd
  exact (g T' h' X' e' W (Arv.set A q1 S M H G rfl W i hi hlen)).via st'
theorem o_bastore (X : Stand p l e R s m args below meth c T locs cells slots) (hx : p.tables.exec = Jvm.exec) (hZ : Z.Warmed39 s.vm) (eT : T.heap = h) {a : Addr} {k : ClassId} {z j : Int32} {x : Int32} {vs vs' : List Value} {dv w : Value} (V : Arv Z h a k .byte z vs dv) (i : Nat) (hi : j.toNatClampNeg = i) (hj : ¬ j < 0 ∧ j < z) (hlen : i < vs.length) (hw : (.int (nar .byte x)) = w) (hvs : vs.set i w = vs') (hd : decode c.code pc = .ok (.bastore, 1)) (hn : pc + 1 = n)
    (g : ∀ T' h', Stand p l e R s m args below meth c T' (locs ++ [⟨a, j.toNatClampNeg⟩]) cells slots → T'.heap = h' → Wr h h' a j.toNatClampNeg w → Arv Z h' a k .byte z vs' dv → Goes p e below s Q K N (T'.setTop (mkF m n Ls rest))) : Goes p e below s Q K N (T.setTop (mkF m pc Ls (.int x :: .int j :: .ref a :: rest))) := by
  subst hn hvs hw
  obtain ⟨cl, A, q1, S, M, H, G⟩ := V
  obtain ⟨T', h', X', e', W, st'⟩ := stB X hx hZ eT A (j := j) (inb_of S hj) (g := mkF m pc Ls (.int x :: .int j :: .ref a :: rest)) rfl rfl hd
  exact (g T' h' X' e' W (Arv.set A q1 S M H G (fits_nar_byte x) W i hi hlen)).via st'
theorem o_bastoreZ (X : Stand p l e R s m args below meth c T locs cells slots) (hx : p.tables.exec = Jvm.exec) (hZ : Z.Warmed39 s.vm) (eT : T.heap = h) {a : Addr} {k : ClassId} {z j : Int32} {x : Int32} {vs vs' : List Value} {dv w : Value} (V : Arv Z h a k .boolean z vs dv) (i : Nat) (hi : j.toNatClampNeg = i) (hj : ¬ j < 0 ∧ j < z) (hlen : i < vs.length) (hw : (.int (nar .boolean x)) = w) (hvs : vs.set i w = vs') (hd : decode c.code pc = .ok (.bastore, 1)) (hn : pc + 1 = n)
    (g : ∀ T' h', Stand p l e R s m args below meth c T' (locs ++ [⟨a, j.toNatClampNeg⟩]) cells slots → T'.heap = h' → Wr h h' a j.toNatClampNeg w → Arv Z h' a k .boolean z vs' dv → Goes p e below s Q K N (T'.setTop (mkF m n Ls rest))) : Goes p e below s Q K N (T.setTop (mkF m pc Ls (.int x :: .int j :: .ref a :: rest))) := by
  subst hn hvs hw
  obtain ⟨cl, A, q1, S, M, H, G⟩ := V
  obtain ⟨T', h', X', e', W, st'⟩ := stZ X hx hZ eT A (j := j) (inb_of S hj) (g := mkF m pc Ls (.int x :: .int j :: .ref a :: rest)) rfl rfl hd
  exact (g T' h' X' e' W (Arv.set A q1 S M H G (fits_nar_bool x) W i hi hlen)).via st'

/-! calls -/
theorem o_initO (X : Stand p l e R s m args below meth c T locs cells slots) (hx : p.tables.exec = Jvm.exec) (hZ : Z.Warmed39 s.vm) {own : String} {idx : Nat} (hown : s.vm.findClass own = some m.cls) (w1 : (Jvm.Cond.methodLink own idx Lib.objectInit).before a0 Z = true) (w2 : (Jvm.Cond.instanceMethod Lib.objectInit).before a0 Z = true) (w3 : (Jvm.Cond.code Lib.objectInit ⟨#[0xb1]⟩ 1 none).before a0 Z = true) (eT : T.heap = h) (hsize : Ls.size = c.maxLocals) {a : Addr} (hd : decode c.code pc = .ok (.invokespecial idx, 3)) (hf : 1 ≤ R.frames) (W : Nat) (hW : (rest.map fun v => v.category).sum ≤ W) (hl : W + 12 ≤ R.locals) (hn : pc + 3 = n)
    (k : ∀ T', Stand p l e R s m args below meth c T' locs cells slots → T'.heap = h → Goes p e below s Q K N (T'.setTop (mkF m n Ls rest))) : Goes p e below s Q K N (T.setTop (mkF m pc Ls (.ref a :: rest))) := by
  subst hn
  obtain ⟨T', X', e', st'⟩ := initO X hx hZ hown w1 w2 w3 eT (g := mkF m pc Ls (.ref a :: rest)) rfl hsize rfl hd hf (W := W) (by show 2 * 0 + _ ≤ _; omega) hl
  exact (k T' X' e').via st'
theorem o_callS (X : Stand p l e R s m args below meth c T locs cells slots) (hx : p.tables.exec = Jvm.exec) (hZ : Z.Warmed39 s.vm) {own : String} {index : Nat} {y : MethodName} {bytes : ByteArray} {maxL : Nat} {ret : Option FieldType} {rm : Room} (hown : s.vm.findClass own = some m.cls) (w1 : (Jvm.Cond.methodLink own index y).before a0 Z = true) (w2 : (Jvm.Cond.static y).before a0 Z = true) (w3 : (Jvm.Cond.initialized y.cls).before a0 Z = true) (w4 : (Jvm.Cond.code y bytes maxL ret).before a0 Z = true) (hy : y.cls ≠ "java/lang/invoke/MethodHandle" ∧ y.cls ≠ "java/lang/invoke/VarHandle") (eT : T.heap = h)
    {argsL rest : List Value} {Q' : Option Value → Heap → List Loc → Prop} (hM : Does l Z y bytes maxL ret [] rm argsL.toArray h Q') (W : Nat) (hf : rm.frames + 1 ≤ R.frames) (hl : W + (maxL + 11) + rm.locals ≤ R.locals) (hc : cells + rm.cells ≤ R.cells) (hs : slots + rm.slots ≤ R.slots) (hsize : Ls.size = c.maxLocals) (hlen : ∀ sig, parseMethodDescriptor y.desc = some sig → argsL.length = sig.parameters.length) (hst : st = argsL.reverse ++ rest) (hW : (rest.map fun v => v.category).sum ≤ W) (hd : decode c.code pc = .ok (.invokestatic index, 3)) (hn : pc + 3 = n)
    (k : ∀ v T' L', Stand p l e R s m args below meth c T' (locs ++ L') (cells + rm.cells) (slots + rm.slots) → Q' v T'.heap L' → Goes p e below s Q K N (T'.setTop (mkF m n Ls (v.toList ++ rest)))) : Goes p e below s Q K N (T.setTop (mkF m pc Ls st)) := by
  subst hn
  obtain ⟨v, _, ⟨T', L, kk, nn⟩, -, X', ⟨Lc, hQ, l', y', z'⟩, st'⟩ := Jvm.LawKit.callS X hx (y := y) hown (mvT hZ w1) (mvT hZ w2) (mvT hZ w3) (mvT hZ w4) hy (backOf (W := W) hM hZ w4 w3 hf hl) (g := mkF m pc Ls st) rfl hsize (argsL := argsL) (rest := rest) hlen hst (by show 2 * 0 + _ ≤ _; omega) hd (fun _ _ => ⟨rfl, eT, hc, hs⟩)
  dsimp only [Pt.U, Pt.locs, Pt.cells, Pt.slots] at X' l' y' z' st' hQ
  subst l' y' z'
  exact (k v T' Lc X' hQ).via st'
theorem o_callN (X : Stand p l e R s m args below meth c T locs cells slots) (hx : p.tables.exec = Jvm.exec) (hZ : Z.Warmed39 s.vm) {own : String} {index : Nat} {y : MethodName} {bytes : ByteArray} {maxL : Nat} {rm : Room} (hy1 : y.name = "<init>") (hown : s.vm.findClass own = some m.cls) (w1 : (Jvm.Cond.methodLink own index y).before a0 Z = true) (w2 : (Jvm.Cond.instanceMethod y).before a0 Z = true) (w3 : (Jvm.Cond.initialized y.cls).before a0 Z = true) (w4 : (Jvm.Cond.code y bytes maxL none).before a0 Z = true) (hy : y.cls ≠ "java/lang/invoke/MethodHandle" ∧ y.cls ≠ "java/lang/invoke/VarHandle") (eT : T.heap = h)
    {a : Addr} {argsL rest : List Value} {Q' : Option Value → Heap → List Loc → Prop} (hM : Does l Z y bytes maxL none [] rm (.ref a :: argsL).toArray h Q') (W : Nat) (hf : rm.frames + 1 ≤ R.frames) (hl : W + (maxL + 11) + rm.locals ≤ R.locals) (hc : cells + rm.cells ≤ R.cells) (hs : slots + rm.slots ≤ R.slots) (hsize : Ls.size = c.maxLocals) (hlen : ∀ sig, parseMethodDescriptor y.desc = some sig → argsL.length = sig.parameters.length) (hst : st = argsL.reverse ++ .ref a :: rest) (hW : (rest.map fun v => v.category).sum ≤ W) (hd : decode c.code pc = .ok (.invokespecial index, 3)) (hn : pc + 3 = n)
    (k : ∀ v T' L', Stand p l e R s m args below meth c T' (locs ++ L') (cells + rm.cells) (slots + rm.slots) → Q' v T'.heap L' → Goes p e below s Q K N (T'.setTop (mkF m n Ls (v.toList ++ rest)))) : Goes p e below s Q K N (T.setTop (mkF m pc Ls st)) := by
  subst hn
  obtain ⟨v, _, ⟨T', L, kk, nn⟩, -, X', ⟨Lc, hQ, l', y', z'⟩, st'⟩ := X.specialBack hx (y := y) hy1 hown (mvT hZ w1) (mvT hZ w2) (mvT hZ w4) hy (backOf (W := W) hM hZ w4 w3 hf hl) (g := mkF m pc Ls st) rfl hsize (Steps.refl _) (a := a) (argsL := argsL) (rest := rest) hlen hst (by show 2 * 0 + _ ≤ _; omega) hd (fun _ _ => ⟨rfl, eT, hc, hs⟩)
  dsimp only [Pt.U, Pt.locs, Pt.cells, Pt.slots] at X' l' y' z' st' hQ
  subst l' y' z'
  exact (k v T' Lc X' hQ).via fun t q => st'.trans q
theorem o_callV (X : Stand p l e R s m args below meth c T locs cells slots) (hx : p.tables.exec = Jvm.exec) (hZ : Z.Warmed39 s.vm) {own C : String} {index : Nat} {y : MethodName} {bytes : ByteArray} {maxL : Nat} {ret : Option FieldType} {rm : Room} (hown : s.vm.findClass own = some m.cls) (w1 : (Jvm.Cond.methodLink own index y).before a0 Z = true) (w2 : (Jvm.Cond.declares y).before a0 Z = true) (w5 : (Jvm.Cond.selects C y y).before a0 Z = true) (w6 : (Jvm.Cond.instanceMethod y).before a0 Z = true) (w3 : (Jvm.Cond.initialized y.cls).before a0 Z = true) (w4 : (Jvm.Cond.code y bytes maxL ret).before a0 Z = true) (hy : y.cls ≠ "java/lang/invoke/MethodHandle" ∧ y.cls ≠ "java/lang/invoke/VarHandle") (eT : T.heap = h)
    {a : Addr} (E : Exa Z h a C) {argsL rest : List Value} {Q' : Option Value → Heap → List Loc → Prop} (hM : Does l Z y bytes maxL ret [] rm (.ref a :: argsL).toArray h Q') (W : Nat) (hf : rm.frames + 1 ≤ R.frames) (hl : W + (maxL + 11) + rm.locals ≤ R.locals) (hc : cells + rm.cells ≤ R.cells) (hs : slots + rm.slots ≤ R.slots) (hsize : Ls.size = c.maxLocals) (hlen : ∀ sig, parseMethodDescriptor y.desc = some sig → argsL.length = sig.parameters.length) (hst : st = argsL.reverse ++ .ref a :: rest) (hW : (rest.map fun v => v.category).sum ≤ W) (hd : decode c.code pc = .ok (.invokevirtual index, 3)) (hn : pc + 3 = n)
    (k : ∀ v T' L', Stand p l e R s m args below meth c T' (locs ++ L') (cells + rm.cells) (slots + rm.slots) → Q' v T'.heap L' → Goes p e below s Q K N (T'.setTop (mkF m n Ls (v.toList ++ rest)))) : Goes p e below s Q K N (T.setTop (mkF m pc Ls st)) := by
  subst hn
  obtain ⟨cq, kq, qa, qb, qc⟩ := isOf hZ eT E
  obtain ⟨v, _, ⟨T', L, kk, nn⟩, -, X', ⟨Lc, hQ, l', y', z'⟩, st'⟩ := X.virtualBack hx (y := y) (z := y) hown (mvT hZ w1) (mvT hZ w2) (notFace_of_selects (args := #[]) (mvT hZ w5)) (mvT hZ w5) (mvT hZ w6) hy (backOf (W := W) hM hZ w4 w3 hf hl) qa qc (g := mkF m pc Ls st) rfl hsize (Steps.refl _) (argsL := argsL) (rest := rest) hlen hst (by show 2 * 0 + _ ≤ _; omega) hd (fun _ _ => ⟨rfl, eT, hc, hs⟩)
  dsimp only [Pt.U, Pt.locs, Pt.cells, Pt.slots] at X' l' y' z' st' hQ
  subst l' y' z'
  exact (k v T' Lc X' hQ).via fun t q => st'.trans q
/-- a private method is the one that is selected -/
theorem o_selpriv {y : MethodName} {kk : Nat} (hy : y.cls ≠ "java/lang/invoke/MethodHandle" ∧ y.cls ≠ "java/lang/invoke/VarHandle") (hins : (Jvm.Cond.instantiable y.cls kk).before args s = true) (hpriv : (Jvm.Cond.privateMethod y).before args s = true) (hinst : (Jvm.Cond.instanceMethod y).before args s = true) : (Jvm.Cond.selects y.cls y y).before args s = true := by
  obtain ⟨c, k, hc, hk, -, hniab, -, -⟩ := Cond.instantiable_spec hins
  have hni : k.isInterface = false := (Bool.or_eq_false_iff.mp hniab).1
  obtain ⟨mk, methM, hnamed, hmethM, -, -⟩ := Cond.instanceMethod_spec hinst
  have hfound : s.methodFound? y.cls y.name y.desc = some mk := State.methodFound?_of_named hnamed hy
  have hcls : mk.cls = c := Option.some.inj ((findClass_of_methodNamed hnamed).symm.trans hc)
  have hsel : selectMethod {} s.vm c mk = .method mk := selectMethod_private hmethM (Cond.privateMethod_at hpriv mk methM hnamed hmethM)
  simp only [Cond.before, Cond.holds, Cond.value, hc, hfound, hnamed, hsel, hcls, hk]
  simp; exact hni
theorem o_callP (X : Stand p l e R s m args below meth c T locs cells slots) (hx : p.tables.exec = Jvm.exec) (hZ : Z.Warmed39 s.vm) {own C : String} {index kk : Nat} {y : MethodName} {bytes : ByteArray} {maxL : Nat} {ret : Option FieldType} {rm : Room} (hown : s.vm.findClass own = some m.cls) (w1 : (Jvm.Cond.methodLink own index y).before a0 Z = true) (w6 : (Jvm.Cond.instanceMethod y).before a0 Z = true) (w5 : (Jvm.Cond.privateMethod y).before a0 Z = true) (wi : (Jvm.Cond.instantiable y.cls kk).before a0 Z = true) (w3 : (Jvm.Cond.initialized y.cls).before a0 Z = true) (w4 : (Jvm.Cond.code y bytes maxL ret).before a0 Z = true) (hy : y.cls ≠ "java/lang/invoke/MethodHandle" ∧ y.cls ≠ "java/lang/invoke/VarHandle") (eT : T.heap = h)
    {a : Addr} (E : Exa Z h a C) {argsL rest : List Value} {Q' : Option Value → Heap → List Loc → Prop} (hM : Does l Z y bytes maxL ret [] rm (.ref a :: argsL).toArray h Q') (W : Nat) (hf : rm.frames + 1 ≤ R.frames) (hl : W + (maxL + 11) + rm.locals ≤ R.locals) (hc : cells + rm.cells ≤ R.cells) (hs : slots + rm.slots ≤ R.slots) (hsize : Ls.size = c.maxLocals) (hlen : ∀ sig, parseMethodDescriptor y.desc = some sig → argsL.length = sig.parameters.length) (hst : st = argsL.reverse ++ .ref a :: rest) (hW : (rest.map fun v => v.category).sum ≤ W) (hd : decode c.code pc = .ok (.invokevirtual index, 3)) (hn : pc + 3 = n)
    (k : ∀ v T' L', Stand p l e R s m args below meth c T' (locs ++ L') (cells + rm.cells) (slots + rm.slots) → Q' v T'.heap L' → Goes p e below s Q K N (T'.setTop (mkF m n Ls (v.toList ++ rest)))) : Goes p e below s Q K N (T.setTop (mkF m pc Ls st)) := by
  subst hn
  obtain ⟨cl, hcl, hob⟩ := E.cell
  obtain ⟨v, _, ⟨T', L, kk, nn⟩, -, X', ⟨Lc, hQ, l', y', z'⟩, st'⟩ := X.privateBack hx (y := y) hown (mvT hZ w1) (mvT hZ w6) (o_selpriv hy (mvT hZ wi) (mvP hZ w5) (mvT hZ w6)) (Cond.privateMethod_at (mvP hZ w5 (args := #[]))) (mvT hZ w4) hy (backOf (W := W) hM hZ w4 w3 hf hl) (g := mkF m pc Ls st) rfl hsize (Steps.refl _) (a := a) (by rw [eT]; exact hcl) hob (argsL := argsL) (rest := rest) hlen hst (by show 2 * 0 + _ ≤ _; omega) hd (fun _ _ => ⟨rfl, eT, hc, hs⟩)
  dsimp only [Pt.U, Pt.locs, Pt.cells, Pt.slots] at X' l' y' z' st' hQ
  subst l' y' z'
  exact (k v T' Lc X' hQ).via fun t q => st'.trans q
/-! returns -/
theorem o_retW (X : Stand p l e R s m args below meth c T locs cells slots) (hx : p.tables.exec = Jvm.exec) {t : FieldType} {w : Value} {i : Instr} (hret : meth.sig.returnType = some t) (hlk : meth.locks = false) (hnw : narrow t w = w)
    (hi : (i = .ireturn ∧ (t = .int ∨ t = .boolean ∨ t = .byte ∨ t = .char ∨ t = .short) ∧ ∃ z, w = .int z) ∨ (i = .lreturn ∧ t = .long ∧ ∃ z, w = .long z) ∨ (i = .dreturn ∧ t = .double ∧ ∃ z, w = .double z) ∨ (i = .freturn ∧ t = .float ∧ ∃ z, w = .float z) ∨ (i = .areturn ∧ t.isReference = true ∧ w.isRef = true))
    (hd : decode c.code pc = .ok (i, 1)) (hc : cells ≤ K) (hs : slots ≤ N) (eT : T.heap = h) (hQ : Q (some w) h locs) : Goes p e below s Q K N (T.setTop (mkF m pc Ls (w :: rest))) := by
  subst eT
  obtain ⟨fs, hr, hrun, hended, hW, hsame⟩ := X.leave (v := some w) (fun q => by rw [hret] at q; cases q) hlk
  exact ⟨_, _, retOut X hx hret hnw hi hd hr, hrun, hended, _, _, rfl, hQ, ⟨_, rfl⟩, hW, hsame.mono hc hs⟩
theorem o_ireturn (X : Stand p l e R s m args below meth c T locs cells slots) (hx : p.tables.exec = Jvm.exec) {x : Int32} (hret : meth.sig.returnType = some .int) (hlk : meth.locks = false) (hd : decode c.code pc = .ok (.ireturn, 1)) (hc : cells ≤ K) (hs : slots ≤ N) (eT : T.heap = h) (hQ : Q (some (.int x)) h locs) : Goes p e below s Q K N (T.setTop (mkF m pc Ls (.int x :: rest))) := o_retW X hx hret hlk rfl (Or.inl ⟨rfl, Or.inl rfl, x, rfl⟩) hd hc hs eT hQ
theorem o_lreturn (X : Stand p l e R s m args below meth c T locs cells slots) (hx : p.tables.exec = Jvm.exec) {x : Int64} (hret : meth.sig.returnType = some .long) (hlk : meth.locks = false) (hd : decode c.code pc = .ok (.lreturn, 1)) (hc : cells ≤ K) (hs : slots ≤ N) (eT : T.heap = h) (hQ : Q (some (.long x)) h locs) : Goes p e below s Q K N (T.setTop (mkF m pc Ls (.long x :: rest))) := o_retW X hx hret hlk rfl (Or.inr (Or.inl ⟨rfl, rfl, x, rfl⟩)) hd hc hs eT hQ
theorem o_areturn (X : Stand p l e R s m args below meth c T locs cells slots) (hx : p.tables.exec = Jvm.exec) {t : FieldType} {w : Value} (hret : meth.sig.returnType = some t) (hlk : meth.locks = false) (ht : t.isReference = true) (hw : w.isRef = true) (hd : decode c.code pc = .ok (.areturn, 1)) (hc : cells ≤ K) (hs : slots ≤ N) (eT : T.heap = h) (hQ : Q (some w) h locs) : Goes p e below s Q K N (T.setTop (mkF m pc Ls (w :: rest))) := o_retW X hx hret hlk (by cases t <;> first | rfl | cases ht) (Or.inr (Or.inr (Or.inr (Or.inr ⟨rfl, ht, hw⟩)))) hd hc hs eT hQ
/-- a boolean, byte, char or short: narrowed -/
theorem o_nreturn (X : Stand p l e R s m args below meth c T locs cells slots) (hx : p.tables.exec = Jvm.exec) {t : FieldType} {x : Int32} (hret : meth.sig.returnType = some t) (hlk : meth.locks = false) (ht : t = .boolean ∨ t = .byte ∨ t = .char ∨ t = .short) (hd : decode c.code pc = .ok (.ireturn, 1)) (hc : cells ≤ K) (hs : slots ≤ N) (eT : T.heap = h) (hQ : Q (some (.int (nar t x))) h locs) : Goes p e below s Q K N (T.setTop (mkF m pc Ls (.int x :: rest))) := by
  subst eT
  obtain ⟨fs, hr, hrun, hended, hW, hsame⟩ := X.leave (v := some (.int (nar t x))) (fun q => by rw [hret] at q; cases q) hlk
  exact ⟨_, _, retN X hx hret ht hd hr, hrun, hended, _, _, rfl, hQ, ⟨_, rfl⟩, hW, hsame.mono hc hs⟩
theorem o_return (X : Stand p l e R s m args below meth c T locs cells slots) (hx : p.tables.exec = Jvm.exec) (hret : meth.sig.returnType = none) (hlk : meth.locks = false) (hd : decode c.code pc = .ok (.return_, 1)) (hc : cells ≤ K) (hs : slots ≤ N) (eT : T.heap = h) (hQ : Q none h locs) : Goes p e below s Q K N (T.setTop (mkF m pc Ls [])) := by
  subst eT
  obtain ⟨fs, hr, hrun, hended, hW, hsame⟩ := X.leave (v := none) (fun _ => rfl) hlk
  exact ⟨_, _, X.returnOut hx hret hd hr, hrun, hended, _, _, rfl, hQ, ⟨_, rfl⟩, hW, hsame.mono hc hs⟩
/-- what a call that writes nothing promises -/
def Pur (h0 : Heap) (w : Value) (v : Option Value) (h : Heap) (L : List Loc) : Prop := v = some w ∧ h = h0 ∧ L = []
end Layer

theorem o_nz1 : nar .boolean (1 : Int32) = 1 := by decide
theorem o_nz0 : nar .boolean (0 : Int32) = 0 := by decide
theorem o_nar8 (x : Int32) : nar .byte x.toInt8.toInt32 = x.toInt8.toInt32 := by simp [nar]

theorem o_and3 (x : Int32) : x &&& 3 = 0 ∨ x &&& 3 = 1 ∨ x &&& 3 = 2 ∨ x &&& 3 = 3 := by
  have h := c_mask x 3 2 (by decide) (by decide)
  have h1 : 0 ≤ x.toInt % (2 ^ 2 : Nat) := Int.emod_nonneg _ (by decide)
  have h2 : x.toInt % (2 ^ 2 : Nat) < (2 ^ 2 : Nat) := Int.emod_lt_of_pos _ (by decide)
  rw [← h] at h1 h2
  simp only [← Int32.toInt_inj]
  have e0 : (0 : Int32).toInt = 0 := rfl
  have e1 : (1 : Int32).toInt = 1 := rfl
  have e2 : (2 : Int32).toInt = 2 := rfl
  have e3 : (3 : Int32).toInt = 3 := rfl
  omega

theorem d_prog_78_method_1_code_0 : decode prog_78_method_1_code 0 = .ok (.aload_n 0, 1) := by decide +kernel
theorem d_prog_78_method_1_code_1 : decode prog_78_method_1_code 1 = .ok (.invokespecial 1, 3) := by decide +kernel
theorem d_prog_78_method_1_code_4 : decode prog_78_method_1_code 4 = .ok (.aload_n 0, 1) := by decide +kernel
theorem d_prog_78_method_1_code_5 : decode prog_78_method_1_code 5 = .ok (.aload_n 1, 1) := by decide +kernel
theorem d_prog_78_method_1_code_6 : decode prog_78_method_1_code 6 = .ok (.putfield 7, 3) := by decide +kernel
theorem d_prog_78_method_1_code_9 : decode prog_78_method_1_code 9 = .ok (.aload_n 0, 1) := by decide +kernel
theorem d_prog_78_method_1_code_10 : decode prog_78_method_1_code 10 = .ok (.iload_n 2, 1) := by decide +kernel
theorem d_prog_78_method_1_code_11 : decode prog_78_method_1_code 11 = .ok (.putfield 13, 3) := by decide +kernel
theorem d_prog_78_method_1_code_14 : decode prog_78_method_1_code 14 = .ok (.return_, 1) := by decide +kernel
theorem o_ef1 (m : MethodId) (a1 : Addr) (a2 : Addr) (p0 : Int32) : entryFrame m #[(.ref a1), (.ref a2), (.int p0)] 3 = mkF m 0 #[.val (.ref a1), .val (.ref a2), .val (.int p0)] [] := by first | (simp [entryFrame, mkF, argsToLocals, Value.category]; done) | rfl
theorem o_pn0 : plainName "com/example/estim365/estim365/formats/BytesIn" = true := by first | (simp [plainName, overriddenIn]; done) | decide +kernel
set_option maxRecDepth 65536 in
set_option maxHeartbeats 40000000 in
theorem c_init (l : Launch) (Z : State) (a0 : Array Value) (hw : ∀ d ∈ tables_1, d.before a0 Z = true) (a1 : Addr) (a2 : Addr) (p0 : Int32) (h0 : Heap) (n0 : Nat) (Z0 : n0 ≤ h0.size) (pg_a1 : n0 ≤ a1) (pE_a1 : Exa Z h0 a1 "com/example/estim365/estim365/formats/BytesIn") (pF_a1_bytes : Fld Z h0 a1 "com/example/estim365/estim365/formats/BytesIn" "bytes" "[B" .null) (pF_a1_position : Fld Z h0 a1 "com/example/estim365/estim365/formats/BytesIn" "position" "I" (.int (0 : Int32))) :
    Does l Z (⟨"com/example/estim365/estim365/formats/BytesIn", "<init>", "([BI)V"⟩ : MethodName) prog_78_method_1_code 3 none [] ({ frames := 1, cells := 0, slots := 0, locals := 12 } : Room) #[(.ref a1), (.ref a2), (.int p0)] h0 (fun v h L => v = none ∧ Fr n0 L ∧ Keep h0 h [a1] ∧ Exa Z h a1 "com/example/estim365/estim365/formats/BytesIn" ∧ Fld Z h a1 "com/example/estim365/estim365/formats/BytesIn" "bytes" "[B" (.ref a2) ∧ Fld Z h a1 "com/example/estim365/estim365/formats/BytesIn" "position" "I" (.int p0)) := by
  refine Does.of (plainFor_of_name o_pn0) ?_
  intro p e s m below meth c T0 hx hby hml hown hnm hret hlk hZ X0 e0
  have hown : s.vm.findClass "com/example/estim365/estim365/formats/BytesIn" = some m.cls := hown
  have hml : c.maxLocals = 3 := hml
  have hret : meth.sig.returnType = none := hret
  refine o_entry (o_ef1 m a1 a2 p0) ?_
  have N0 := Fr.nil n0
  refine o_aloadN X0 hx (hb hby d_prog_78_method_1_code_0) (v := (.ref a1)) rfl rfl (n := 1) rfl ?_
  refine o_initO X0 hx hZ hown (hw _ (List.mem_of_getElem? (i := 7) rfl)) (hw _ (List.mem_of_getElem? (i := 8) rfl)) (hw _ (List.mem_of_getElem? (i := 9) rfl)) e0 (by rw [hml]; rfl) (hb hby d_prog_78_method_1_code_1) (by decide) 0 (Nat.le_of_eq rfl) (by decide) (n := 4) rfl ?_
  intro T1 X1 e1
  refine o_aloadN X1 hx (hb hby d_prog_78_method_1_code_4) (v := (.ref a1)) rfl rfl (n := 5) rfl ?_
  refine o_aloadN X1 hx (hb hby d_prog_78_method_1_code_5) (v := (.ref a2)) rfl rfl (n := 6) rfl ?_
  refine o_putfield X1 hx hZ hown (host := "") (Or.inl (hw _ (List.mem_of_getElem? (i := 10) rfl))) Via.refl e1 pF_a1_bytes pE_a1 (Or.inr ⟨(hw _ (List.mem_of_getElem? (i := 11) rfl)), rfl, hnm⟩) (hw _ (List.mem_of_getElem? (i := 2) rfl)) (ty := (.array .byte)) (by decide) rfl rfl (hb hby d_prog_78_method_1_code_6) (n := 9) rfl ?_
  intro T2 h2 X2 e2 W2 F2 E_2
  have f3 := pF_a1_position.other W2 (Or.inr (slot_ne (Or.inl (hw _ (List.mem_of_getElem? (i := 13) rfl))) (Or.inr (hw _ (List.mem_of_getElem? (i := 11) rfl))) (by decide) (t := .int) (t' := (.array .byte)) (by decide) (by decide)))
  have zz2 : n0 ≤ h2.size := Nat.le_trans Z0 (Nat.le_of_eq W2.size.symm)
  have N4 := Fr.snoc X2 N0 pg_a1
  have K5 : Keep h0 h2 [a1] := (Keep.refl h0 [a1]).wr W2 (Or.inl (List.mem_of_getElem? (i := 0) rfl))
  refine o_aloadN X2 hx (hb hby d_prog_78_method_1_code_9) (v := (.ref a1)) rfl rfl (n := 10) rfl ?_
  refine o_iloadN X2 hx (hb hby d_prog_78_method_1_code_10) (v := p0) rfl (n := 11) rfl ?_
  refine o_putfield X2 hx hZ hown (host := "") (Or.inl (hw _ (List.mem_of_getElem? (i := 12) rfl))) Via.refl e2 f3 E_2 (Or.inl (hw _ (List.mem_of_getElem? (i := 13) rfl))) (hw _ (List.mem_of_getElem? (i := 2) rfl)) (ty := .int) (by decide) rfl rfl (hb hby d_prog_78_method_1_code_11) (n := 14) rfl ?_
  intro T6 h6 X6 e6 W6 F6 E_6
  have f7 := F2.other W6 (Or.inr (slot_ne (Or.inr (hw _ (List.mem_of_getElem? (i := 11) rfl))) (Or.inl (hw _ (List.mem_of_getElem? (i := 13) rfl))) (by decide) (t := (.array .byte)) (t' := .int) (by decide) (by decide)))
  have zz6 : n0 ≤ h6.size := Nat.le_trans zz2 (Nat.le_of_eq W6.size.symm)
  have N8 := Fr.snoc X6 N4 pg_a1
  have K9 : Keep h0 h6 [a1] := K5.wr W6 (Or.inl (List.mem_of_getElem? (i := 0) rfl))
  exact o_return X6 hx hret hlk (hb hby d_prog_78_method_1_code_14) (by decide) (by decide) e6 ⟨rfl, N8, K9, E_6, f7, F6⟩
theorem d_prog_78_method_3_code_0 : decode prog_78_method_3_code 0 = .ok (.aload_n 0, 1) := by decide +kernel
theorem d_prog_78_method_3_code_1 : decode prog_78_method_3_code 1 = .ok (.getfield 7, 3) := by decide +kernel
theorem d_prog_78_method_3_code_4 : decode prog_78_method_3_code 4 = .ok (.aload_n 0, 1) := by decide +kernel
theorem d_prog_78_method_3_code_5 : decode prog_78_method_3_code 5 = .ok (.dup, 1) := by decide +kernel
theorem d_prog_78_method_3_code_6 : decode prog_78_method_3_code 6 = .ok (.getfield 13, 3) := by decide +kernel
theorem d_prog_78_method_3_code_9 : decode prog_78_method_3_code 9 = .ok (.dup_x1, 1) := by decide +kernel
theorem d_prog_78_method_3_code_10 : decode prog_78_method_3_code 10 = .ok (.iconst 1, 1) := by decide +kernel
theorem d_prog_78_method_3_code_11 : decode prog_78_method_3_code 11 = .ok (.iadd, 1) := by decide +kernel
theorem d_prog_78_method_3_code_12 : decode prog_78_method_3_code 12 = .ok (.putfield 13, 3) := by decide +kernel
theorem d_prog_78_method_3_code_15 : decode prog_78_method_3_code 15 = .ok (.baload, 1) := by decide +kernel
theorem d_prog_78_method_3_code_16 : decode prog_78_method_3_code 16 = .ok (.ireturn, 1) := by decide +kernel
theorem o_ef2 (m : MethodId) (a1 : Addr) : entryFrame m #[(.ref a1)] 1 = mkF m 0 #[.val (.ref a1)] [] := by first | (simp [entryFrame, mkF, argsToLocals, Value.category]; done) | rfl
set_option maxRecDepth 65536 in
set_option maxHeartbeats 40000000 in
theorem c_read_0 (l : Launch) (Z : State) (a0 : Array Value) (hw : ∀ d ∈ tables_1, d.before a0 Z = true) (a1 : Addr) (a2 : Addr) (k2 : ClassId) (w0 : Int32) (w1 : Int32) (w2 : Int32) (w3 : Int32) (h0 : Heap) (n0 : Nat) (Z0 : n0 ≤ h0.size) (pg_a1 : n0 ≤ a1) (pE_a1 : Exa Z h0 a1 "com/example/estim365/estim365/formats/BytesIn") (pF_a1_bytes : Fld Z h0 a1 "com/example/estim365/estim365/formats/BytesIn" "bytes" "[B" (.ref a2)) (pF_a1_position : Fld Z h0 a1 "com/example/estim365/estim365/formats/BytesIn" "position" "I" (.int (0 : Int32))) (pV_a2 : Arv Z h0 a2 k2 .byte (4 : Int32) [(.int w0), (.int w1), (.int w2), (.int w3)] (.int (0 : Int32))) (pne_a2_a1 : a2 ≠ a1) (hb8 : nar .byte w0 = w0) :
    Does l Z (⟨"com/example/estim365/estim365/formats/BytesIn", "readByte", "()B"⟩ : MethodName) prog_78_method_3_code 1 (some .byte) [] ({ frames := 0, cells := 0, slots := 0, locals := 0 } : Room) #[(.ref a1)] h0 (fun v h L => v = some (.int w0) ∧ Fr n0 L ∧ Keep h0 h [a1] ∧ Exa Z h a1 "com/example/estim365/estim365/formats/BytesIn" ∧ Fld Z h a1 "com/example/estim365/estim365/formats/BytesIn" "bytes" "[B" (.ref a2) ∧ Fld Z h a1 "com/example/estim365/estim365/formats/BytesIn" "position" "I" (.int (1 : Int32))) := by
  refine Does.of (plainFor_of_name o_pn0) ?_
  intro p e s m below meth c T0 hx hby hml hown hnm hret hlk hZ X0 e0
  have hown : s.vm.findClass "com/example/estim365/estim365/formats/BytesIn" = some m.cls := hown
  have hml : c.maxLocals = 1 := hml
  have hret : meth.sig.returnType = some .byte := hret
  refine o_entry (o_ef2 m a1) ?_
  have N0 := Fr.nil n0
  refine o_aloadN X0 hx (hb hby d_prog_78_method_3_code_0) (v := (.ref a1)) rfl rfl (n := 1) rfl ?_
  refine o_getfield X0 hx hZ hown (host := "") (Or.inl (hw _ (List.mem_of_getElem? (i := 10) rfl))) Via.refl e0 pF_a1_bytes (hb hby d_prog_78_method_3_code_1) (n := 4) rfl ?_
  intro T1 X1 e1
  refine o_aloadN X1 hx (hb hby d_prog_78_method_3_code_4) (v := (.ref a1)) rfl rfl (n := 5) rfl ?_
  refine o_dup X1 hx (hb hby d_prog_78_method_3_code_5) rfl (n := 6) rfl ?_
  refine o_getfield X1 hx hZ hown (host := "") (Or.inl (hw _ (List.mem_of_getElem? (i := 12) rfl))) Via.refl e1 pF_a1_position (hb hby d_prog_78_method_3_code_6) (n := 9) rfl ?_
  intro T2 X2 e2
  refine o_dup_x1 X2 hx (hb hby d_prog_78_method_3_code_9) rfl rfl (n := 10) rfl ?_
  refine o_iconst X2 hx (hb hby d_prog_78_method_3_code_10) (v := (1 : Int32)) rfl (n := 11) rfl ?_
  refine o_iadd X2 hx (hb hby d_prog_78_method_3_code_11) (v := (1 : Int32)) (by decide) (n := 12) rfl ?_
  refine o_putfield X2 hx hZ hown (host := "") (Or.inl (hw _ (List.mem_of_getElem? (i := 12) rfl))) Via.refl e2 pF_a1_position pE_a1 (Or.inl (hw _ (List.mem_of_getElem? (i := 13) rfl))) (hw _ (List.mem_of_getElem? (i := 2) rfl)) (ty := .int) (by decide) rfl rfl (hb hby d_prog_78_method_3_code_12) (n := 15) rfl ?_
  intro T3 h3 X3 e3 W3 F3 E_3
  have f4 := pF_a1_bytes.other W3 (Or.inr (slot_ne (Or.inr (hw _ (List.mem_of_getElem? (i := 11) rfl))) (Or.inl (hw _ (List.mem_of_getElem? (i := 13) rfl))) (by decide) (t := (.array .byte)) (t' := .int) (by decide) (by decide)))
  have f5 := pV_a2.other W3 pne_a2_a1
  have zz3 : n0 ≤ h3.size := Nat.le_trans Z0 (Nat.le_of_eq W3.size.symm)
  have N6 := Fr.snoc X3 N0 pg_a1
  have K7 : Keep h0 h3 [a1] := (Keep.refl h0 [a1]).wr W3 (Or.inl (List.mem_of_getElem? (i := 0) rfl))
  refine o_baload X3 hx hZ e3 f5 (0) (by decide) (by decide) (v := (.int w0)) rfl (hb hby d_prog_78_method_3_code_15) (n := 16) rfl ?_
  exact o_nreturn X3 hx hret hlk (t := .byte) (by simp) (hb hby d_prog_78_method_3_code_16) (by decide) (by decide) e3 ⟨(congrArg (fun q => some (Value.int q)) hb8), N6, K7, E_3, f4, F3⟩
theorem o_ef3 (m : MethodId) (a1 : Addr) : entryFrame m #[(.ref a1)] 1 = mkF m 0 #[.val (.ref a1)] [] := by first | (simp [entryFrame, mkF, argsToLocals, Value.category]; done) | rfl
set_option maxRecDepth 65536 in
set_option maxHeartbeats 40000000 in
theorem c_read_1 (l : Launch) (Z : State) (a0 : Array Value) (hw : ∀ d ∈ tables_1, d.before a0 Z = true) (a1 : Addr) (a2 : Addr) (k2 : ClassId) (w0 : Int32) (w1 : Int32) (w2 : Int32) (w3 : Int32) (h0 : Heap) (n0 : Nat) (Z0 : n0 ≤ h0.size) (pg_a1 : n0 ≤ a1) (pE_a1 : Exa Z h0 a1 "com/example/estim365/estim365/formats/BytesIn") (pF_a1_bytes : Fld Z h0 a1 "com/example/estim365/estim365/formats/BytesIn" "bytes" "[B" (.ref a2)) (pF_a1_position : Fld Z h0 a1 "com/example/estim365/estim365/formats/BytesIn" "position" "I" (.int (1 : Int32))) (pV_a2 : Arv Z h0 a2 k2 .byte (4 : Int32) [(.int w0), (.int w1), (.int w2), (.int w3)] (.int (0 : Int32))) (pne_a2_a1 : a2 ≠ a1) (hb8 : nar .byte w1 = w1) :
    Does l Z (⟨"com/example/estim365/estim365/formats/BytesIn", "readByte", "()B"⟩ : MethodName) prog_78_method_3_code 1 (some .byte) [] ({ frames := 0, cells := 0, slots := 0, locals := 0 } : Room) #[(.ref a1)] h0 (fun v h L => v = some (.int w1) ∧ Fr n0 L ∧ Keep h0 h [a1] ∧ Exa Z h a1 "com/example/estim365/estim365/formats/BytesIn" ∧ Fld Z h a1 "com/example/estim365/estim365/formats/BytesIn" "bytes" "[B" (.ref a2) ∧ Fld Z h a1 "com/example/estim365/estim365/formats/BytesIn" "position" "I" (.int (2 : Int32))) := by
  refine Does.of (plainFor_of_name o_pn0) ?_
  intro p e s m below meth c T0 hx hby hml hown hnm hret hlk hZ X0 e0
  have hown : s.vm.findClass "com/example/estim365/estim365/formats/BytesIn" = some m.cls := hown
  have hml : c.maxLocals = 1 := hml
  have hret : meth.sig.returnType = some .byte := hret
  refine o_entry (o_ef3 m a1) ?_
  have N0 := Fr.nil n0
  refine o_aloadN X0 hx (hb hby d_prog_78_method_3_code_0) (v := (.ref a1)) rfl rfl (n := 1) rfl ?_
  refine o_getfield X0 hx hZ hown (host := "") (Or.inl (hw _ (List.mem_of_getElem? (i := 10) rfl))) Via.refl e0 pF_a1_bytes (hb hby d_prog_78_method_3_code_1) (n := 4) rfl ?_
  intro T1 X1 e1
  refine o_aloadN X1 hx (hb hby d_prog_78_method_3_code_4) (v := (.ref a1)) rfl rfl (n := 5) rfl ?_
  refine o_dup X1 hx (hb hby d_prog_78_method_3_code_5) rfl (n := 6) rfl ?_
  refine o_getfield X1 hx hZ hown (host := "") (Or.inl (hw _ (List.mem_of_getElem? (i := 12) rfl))) Via.refl e1 pF_a1_position (hb hby d_prog_78_method_3_code_6) (n := 9) rfl ?_
  intro T2 X2 e2
  refine o_dup_x1 X2 hx (hb hby d_prog_78_method_3_code_9) rfl rfl (n := 10) rfl ?_
  refine o_iconst X2 hx (hb hby d_prog_78_method_3_code_10) (v := (1 : Int32)) rfl (n := 11) rfl ?_
  refine o_iadd X2 hx (hb hby d_prog_78_method_3_code_11) (v := (2 : Int32)) (by decide) (n := 12) rfl ?_
  refine o_putfield X2 hx hZ hown (host := "") (Or.inl (hw _ (List.mem_of_getElem? (i := 12) rfl))) Via.refl e2 pF_a1_position pE_a1 (Or.inl (hw _ (List.mem_of_getElem? (i := 13) rfl))) (hw _ (List.mem_of_getElem? (i := 2) rfl)) (ty := .int) (by decide) rfl rfl (hb hby d_prog_78_method_3_code_12) (n := 15) rfl ?_
  intro T3 h3 X3 e3 W3 F3 E_3
  have f4 := pF_a1_bytes.other W3 (Or.inr (slot_ne (Or.inr (hw _ (List.mem_of_getElem? (i := 11) rfl))) (Or.inl (hw _ (List.mem_of_getElem? (i := 13) rfl))) (by decide) (t := (.array .byte)) (t' := .int) (by decide) (by decide)))
  have f5 := pV_a2.other W3 pne_a2_a1
  have zz3 : n0 ≤ h3.size := Nat.le_trans Z0 (Nat.le_of_eq W3.size.symm)
  have N6 := Fr.snoc X3 N0 pg_a1
  have K7 : Keep h0 h3 [a1] := (Keep.refl h0 [a1]).wr W3 (Or.inl (List.mem_of_getElem? (i := 0) rfl))
  refine o_baload X3 hx hZ e3 f5 (1) (by decide) (by decide) (v := (.int w1)) rfl (hb hby d_prog_78_method_3_code_15) (n := 16) rfl ?_
  exact o_nreturn X3 hx hret hlk (t := .byte) (by simp) (hb hby d_prog_78_method_3_code_16) (by decide) (by decide) e3 ⟨(congrArg (fun q => some (Value.int q)) hb8), N6, K7, E_3, f4, F3⟩
theorem o_ef4 (m : MethodId) (a1 : Addr) : entryFrame m #[(.ref a1)] 1 = mkF m 0 #[.val (.ref a1)] [] := by first | (simp [entryFrame, mkF, argsToLocals, Value.category]; done) | rfl
set_option maxRecDepth 65536 in
set_option maxHeartbeats 40000000 in
theorem c_read_2 (l : Launch) (Z : State) (a0 : Array Value) (hw : ∀ d ∈ tables_1, d.before a0 Z = true) (a1 : Addr) (a2 : Addr) (k2 : ClassId) (w0 : Int32) (w1 : Int32) (w2 : Int32) (w3 : Int32) (h0 : Heap) (n0 : Nat) (Z0 : n0 ≤ h0.size) (pg_a1 : n0 ≤ a1) (pE_a1 : Exa Z h0 a1 "com/example/estim365/estim365/formats/BytesIn") (pF_a1_bytes : Fld Z h0 a1 "com/example/estim365/estim365/formats/BytesIn" "bytes" "[B" (.ref a2)) (pF_a1_position : Fld Z h0 a1 "com/example/estim365/estim365/formats/BytesIn" "position" "I" (.int (2 : Int32))) (pV_a2 : Arv Z h0 a2 k2 .byte (4 : Int32) [(.int w0), (.int w1), (.int w2), (.int w3)] (.int (0 : Int32))) (pne_a2_a1 : a2 ≠ a1) (hb8 : nar .byte w2 = w2) :
    Does l Z (⟨"com/example/estim365/estim365/formats/BytesIn", "readByte", "()B"⟩ : MethodName) prog_78_method_3_code 1 (some .byte) [] ({ frames := 0, cells := 0, slots := 0, locals := 0 } : Room) #[(.ref a1)] h0 (fun v h L => v = some (.int w2) ∧ Fr n0 L ∧ Keep h0 h [a1] ∧ Exa Z h a1 "com/example/estim365/estim365/formats/BytesIn" ∧ Fld Z h a1 "com/example/estim365/estim365/formats/BytesIn" "bytes" "[B" (.ref a2) ∧ Fld Z h a1 "com/example/estim365/estim365/formats/BytesIn" "position" "I" (.int (3 : Int32))) := by
  refine Does.of (plainFor_of_name o_pn0) ?_
  intro p e s m below meth c T0 hx hby hml hown hnm hret hlk hZ X0 e0
  have hown : s.vm.findClass "com/example/estim365/estim365/formats/BytesIn" = some m.cls := hown
  have hml : c.maxLocals = 1 := hml
  have hret : meth.sig.returnType = some .byte := hret
  refine o_entry (o_ef4 m a1) ?_
  have N0 := Fr.nil n0
  refine o_aloadN X0 hx (hb hby d_prog_78_method_3_code_0) (v := (.ref a1)) rfl rfl (n := 1) rfl ?_
  refine o_getfield X0 hx hZ hown (host := "") (Or.inl (hw _ (List.mem_of_getElem? (i := 10) rfl))) Via.refl e0 pF_a1_bytes (hb hby d_prog_78_method_3_code_1) (n := 4) rfl ?_
  intro T1 X1 e1
  refine o_aloadN X1 hx (hb hby d_prog_78_method_3_code_4) (v := (.ref a1)) rfl rfl (n := 5) rfl ?_
  refine o_dup X1 hx (hb hby d_prog_78_method_3_code_5) rfl (n := 6) rfl ?_
  refine o_getfield X1 hx hZ hown (host := "") (Or.inl (hw _ (List.mem_of_getElem? (i := 12) rfl))) Via.refl e1 pF_a1_position (hb hby d_prog_78_method_3_code_6) (n := 9) rfl ?_
  intro T2 X2 e2
  refine o_dup_x1 X2 hx (hb hby d_prog_78_method_3_code_9) rfl rfl (n := 10) rfl ?_
  refine o_iconst X2 hx (hb hby d_prog_78_method_3_code_10) (v := (1 : Int32)) rfl (n := 11) rfl ?_
  refine o_iadd X2 hx (hb hby d_prog_78_method_3_code_11) (v := (3 : Int32)) (by decide) (n := 12) rfl ?_
  refine o_putfield X2 hx hZ hown (host := "") (Or.inl (hw _ (List.mem_of_getElem? (i := 12) rfl))) Via.refl e2 pF_a1_position pE_a1 (Or.inl (hw _ (List.mem_of_getElem? (i := 13) rfl))) (hw _ (List.mem_of_getElem? (i := 2) rfl)) (ty := .int) (by decide) rfl rfl (hb hby d_prog_78_method_3_code_12) (n := 15) rfl ?_
  intro T3 h3 X3 e3 W3 F3 E_3
  have f4 := pF_a1_bytes.other W3 (Or.inr (slot_ne (Or.inr (hw _ (List.mem_of_getElem? (i := 11) rfl))) (Or.inl (hw _ (List.mem_of_getElem? (i := 13) rfl))) (by decide) (t := (.array .byte)) (t' := .int) (by decide) (by decide)))
  have f5 := pV_a2.other W3 pne_a2_a1
  have zz3 : n0 ≤ h3.size := Nat.le_trans Z0 (Nat.le_of_eq W3.size.symm)
  have N6 := Fr.snoc X3 N0 pg_a1
  have K7 : Keep h0 h3 [a1] := (Keep.refl h0 [a1]).wr W3 (Or.inl (List.mem_of_getElem? (i := 0) rfl))
  refine o_baload X3 hx hZ e3 f5 (2) (by decide) (by decide) (v := (.int w2)) rfl (hb hby d_prog_78_method_3_code_15) (n := 16) rfl ?_
  exact o_nreturn X3 hx hret hlk (t := .byte) (by simp) (hb hby d_prog_78_method_3_code_16) (by decide) (by decide) e3 ⟨(congrArg (fun q => some (Value.int q)) hb8), N6, K7, E_3, f4, F3⟩
theorem o_ef5 (m : MethodId) (a1 : Addr) : entryFrame m #[(.ref a1)] 1 = mkF m 0 #[.val (.ref a1)] [] := by first | (simp [entryFrame, mkF, argsToLocals, Value.category]; done) | rfl
set_option maxRecDepth 65536 in
set_option maxHeartbeats 40000000 in
theorem c_read_3 (l : Launch) (Z : State) (a0 : Array Value) (hw : ∀ d ∈ tables_1, d.before a0 Z = true) (a1 : Addr) (a2 : Addr) (k2 : ClassId) (w0 : Int32) (w1 : Int32) (w2 : Int32) (w3 : Int32) (h0 : Heap) (n0 : Nat) (Z0 : n0 ≤ h0.size) (pg_a1 : n0 ≤ a1) (pE_a1 : Exa Z h0 a1 "com/example/estim365/estim365/formats/BytesIn") (pF_a1_bytes : Fld Z h0 a1 "com/example/estim365/estim365/formats/BytesIn" "bytes" "[B" (.ref a2)) (pF_a1_position : Fld Z h0 a1 "com/example/estim365/estim365/formats/BytesIn" "position" "I" (.int (3 : Int32))) (pV_a2 : Arv Z h0 a2 k2 .byte (4 : Int32) [(.int w0), (.int w1), (.int w2), (.int w3)] (.int (0 : Int32))) (pne_a2_a1 : a2 ≠ a1) (hb8 : nar .byte w3 = w3) :
    Does l Z (⟨"com/example/estim365/estim365/formats/BytesIn", "readByte", "()B"⟩ : MethodName) prog_78_method_3_code 1 (some .byte) [] ({ frames := 0, cells := 0, slots := 0, locals := 0 } : Room) #[(.ref a1)] h0 (fun v h L => v = some (.int w3) ∧ Fr n0 L ∧ Keep h0 h [a1] ∧ Exa Z h a1 "com/example/estim365/estim365/formats/BytesIn" ∧ Fld Z h a1 "com/example/estim365/estim365/formats/BytesIn" "bytes" "[B" (.ref a2) ∧ Fld Z h a1 "com/example/estim365/estim365/formats/BytesIn" "position" "I" (.int (4 : Int32))) := by
  refine Does.of (plainFor_of_name o_pn0) ?_
  intro p e s m below meth c T0 hx hby hml hown hnm hret hlk hZ X0 e0
  have hown : s.vm.findClass "com/example/estim365/estim365/formats/BytesIn" = some m.cls := hown
  have hml : c.maxLocals = 1 := hml
  have hret : meth.sig.returnType = some .byte := hret
  refine o_entry (o_ef5 m a1) ?_
  have N0 := Fr.nil n0
  refine o_aloadN X0 hx (hb hby d_prog_78_method_3_code_0) (v := (.ref a1)) rfl rfl (n := 1) rfl ?_
  refine o_getfield X0 hx hZ hown (host := "") (Or.inl (hw _ (List.mem_of_getElem? (i := 10) rfl))) Via.refl e0 pF_a1_bytes (hb hby d_prog_78_method_3_code_1) (n := 4) rfl ?_
  intro T1 X1 e1
  refine o_aloadN X1 hx (hb hby d_prog_78_method_3_code_4) (v := (.ref a1)) rfl rfl (n := 5) rfl ?_
  refine o_dup X1 hx (hb hby d_prog_78_method_3_code_5) rfl (n := 6) rfl ?_
  refine o_getfield X1 hx hZ hown (host := "") (Or.inl (hw _ (List.mem_of_getElem? (i := 12) rfl))) Via.refl e1 pF_a1_position (hb hby d_prog_78_method_3_code_6) (n := 9) rfl ?_
  intro T2 X2 e2
  refine o_dup_x1 X2 hx (hb hby d_prog_78_method_3_code_9) rfl rfl (n := 10) rfl ?_
  refine o_iconst X2 hx (hb hby d_prog_78_method_3_code_10) (v := (1 : Int32)) rfl (n := 11) rfl ?_
  refine o_iadd X2 hx (hb hby d_prog_78_method_3_code_11) (v := (4 : Int32)) (by decide) (n := 12) rfl ?_
  refine o_putfield X2 hx hZ hown (host := "") (Or.inl (hw _ (List.mem_of_getElem? (i := 12) rfl))) Via.refl e2 pF_a1_position pE_a1 (Or.inl (hw _ (List.mem_of_getElem? (i := 13) rfl))) (hw _ (List.mem_of_getElem? (i := 2) rfl)) (ty := .int) (by decide) rfl rfl (hb hby d_prog_78_method_3_code_12) (n := 15) rfl ?_
  intro T3 h3 X3 e3 W3 F3 E_3
  have f4 := pF_a1_bytes.other W3 (Or.inr (slot_ne (Or.inr (hw _ (List.mem_of_getElem? (i := 11) rfl))) (Or.inl (hw _ (List.mem_of_getElem? (i := 13) rfl))) (by decide) (t := (.array .byte)) (t' := .int) (by decide) (by decide)))
  have f5 := pV_a2.other W3 pne_a2_a1
  have zz3 : n0 ≤ h3.size := Nat.le_trans Z0 (Nat.le_of_eq W3.size.symm)
  have N6 := Fr.snoc X3 N0 pg_a1
  have K7 : Keep h0 h3 [a1] := (Keep.refl h0 [a1]).wr W3 (Or.inl (List.mem_of_getElem? (i := 0) rfl))
  refine o_baload X3 hx hZ e3 f5 (3) (by decide) (by decide) (v := (.int w3)) rfl (hb hby d_prog_78_method_3_code_15) (n := 16) rfl ?_
  exact o_nreturn X3 hx hret hlk (t := .byte) (by simp) (hb hby d_prog_78_method_3_code_16) (by decide) (by decide) e3 ⟨(congrArg (fun q => some (Value.int q)) hb8), N6, K7, E_3, f4, F3⟩
theorem d_method_3_code_0 : decode method_3_code 0 = .ok (.iload 4, 2) := by decide +kernel
theorem d_method_3_code_2 : decode method_3_code 2 = .ok (.ifCond .ne 6, 3) := by decide +kernel
theorem d_method_3_code_5 : decode method_3_code 5 = .ok (.iload_n 0, 1) := by decide +kernel
theorem d_method_3_code_6 : decode method_3_code 6 = .ok (.i2b, 1) := by decide +kernel
theorem d_method_3_code_7 : decode method_3_code 7 = .ok (.ireturn, 1) := by decide +kernel
theorem o_ef6 (m : MethodId) (p0 : Int32) (p1 : Int32) (p2 : Int32) (p3 : Int32) : entryFrame m #[(.int p0), (.int p1), (.int p2), (.int p3), (.int (0 : Int32))] 5 = mkF m 0 #[.val (.int p0), .val (.int p1), .val (.int p2), .val (.int p3), .val (.int (0 : Int32))] [] := by first | (simp [entryFrame, mkF, argsToLocals, Value.category]; done) | rfl
theorem o_pn1 : plainName "com/example/estim365/estim365/formats/BytesInReadBytePinLaw" = true := by first | (simp [plainName, overriddenIn]; done) | decide +kernel
set_option maxRecDepth 65536 in
set_option maxHeartbeats 40000000 in
theorem c_pick_0 (l : Launch) (Z : State) (a0 : Array Value) (hw : ∀ d ∈ tables_1, d.before a0 Z = true) (p0 p1 p2 p3 : Int32) (h0 : Heap) :
    Does l Z (⟨"com/example/estim365/estim365/formats/BytesInReadBytePinLaw", "pick", "(IIIII)B"⟩ : MethodName) method_3_code 5 (some .byte) [] ({ frames := 0, cells := 0, slots := 0, locals := 0 } : Room) #[(.int p0), (.int p1), (.int p2), (.int p3), (.int (0 : Int32))] h0 (Pur h0 (.int p0.toInt8.toInt32)) := by
  refine Does.of (plainFor_of_name o_pn1) ?_
  intro p e s m below meth c T0 hx hby hml hown hnm hret hlk hZ X0 e0
  have hown : s.vm.findClass "com/example/estim365/estim365/formats/BytesInReadBytePinLaw" = some m.cls := hown
  have hml : c.maxLocals = 5 := hml
  have hret : meth.sig.returnType = some .byte := hret
  refine o_entry (o_ef6 m p0 p1 p2 p3) ?_
  refine o_iload X0 hx (hb hby d_method_3_code_0) (v := (0 : Int32)) rfl (n := 2) rfl ?_
  refine o_ifN X0 hx (hb hby d_method_3_code_2) (XT.i0_ne_f (by decide)) (n := 5) rfl ?_
  refine o_iloadN X0 hx (hb hby d_method_3_code_5) (v := p0) rfl (n := 6) rfl ?_
  refine o_i2b X0 hx (hb hby d_method_3_code_6) (v := p0.toInt8.toInt32) rfl (n := 7) rfl ?_
  exact o_nreturn X0 hx hret hlk (t := .byte) (by simp) (hb hby d_method_3_code_7) (by decide) (by decide) e0 ⟨congrArg (fun q => some (Value.int q)) (o_nar8 _), rfl, rfl⟩
theorem d_method_3_code_8 : decode method_3_code 8 = .ok (.iload 4, 2) := by decide +kernel
theorem d_method_3_code_10 : decode method_3_code 10 = .ok (.iconst 1, 1) := by decide +kernel
theorem d_method_3_code_11 : decode method_3_code 11 = .ok (.if_icmp .ne 6, 3) := by decide +kernel
theorem d_method_3_code_14 : decode method_3_code 14 = .ok (.iload_n 1, 1) := by decide +kernel
theorem d_method_3_code_15 : decode method_3_code 15 = .ok (.i2b, 1) := by decide +kernel
theorem d_method_3_code_16 : decode method_3_code 16 = .ok (.ireturn, 1) := by decide +kernel
theorem o_ef7 (m : MethodId) (p0 : Int32) (p1 : Int32) (p2 : Int32) (p3 : Int32) : entryFrame m #[(.int p0), (.int p1), (.int p2), (.int p3), (.int (1 : Int32))] 5 = mkF m 0 #[.val (.int p0), .val (.int p1), .val (.int p2), .val (.int p3), .val (.int (1 : Int32))] [] := by first | (simp [entryFrame, mkF, argsToLocals, Value.category]; done) | rfl
set_option maxRecDepth 65536 in
set_option maxHeartbeats 40000000 in
theorem c_pick_1 (l : Launch) (Z : State) (a0 : Array Value) (hw : ∀ d ∈ tables_1, d.before a0 Z = true) (p0 p1 p2 p3 : Int32) (h0 : Heap) :
    Does l Z (⟨"com/example/estim365/estim365/formats/BytesInReadBytePinLaw", "pick", "(IIIII)B"⟩ : MethodName) method_3_code 5 (some .byte) [] ({ frames := 0, cells := 0, slots := 0, locals := 0 } : Room) #[(.int p0), (.int p1), (.int p2), (.int p3), (.int (1 : Int32))] h0 (Pur h0 (.int p1.toInt8.toInt32)) := by
  refine Does.of (plainFor_of_name o_pn1) ?_
  intro p e s m below meth c T0 hx hby hml hown hnm hret hlk hZ X0 e0
  have hown : s.vm.findClass "com/example/estim365/estim365/formats/BytesInReadBytePinLaw" = some m.cls := hown
  have hml : c.maxLocals = 5 := hml
  have hret : meth.sig.returnType = some .byte := hret
  refine o_entry (o_ef7 m p0 p1 p2 p3) ?_
  refine o_iload X0 hx (hb hby d_method_3_code_0) (v := (1 : Int32)) rfl (n := 2) rfl ?_
  refine o_ifY X0 hx (hb hby d_method_3_code_2) (XT.i0_ne_t (by decide)) (by decide) (n := 8) (by decide) ?_
  refine o_iload X0 hx (hb hby d_method_3_code_8) (v := (1 : Int32)) rfl (n := 10) rfl ?_
  refine o_iconst X0 hx (hb hby d_method_3_code_10) (v := (1 : Int32)) rfl (n := 11) rfl ?_
  refine o_icmpN X0 hx (hb hby d_method_3_code_11) (XT.ii_ne_f (by decide)) (n := 14) rfl ?_
  refine o_iloadN X0 hx (hb hby d_method_3_code_14) (v := p1) rfl (n := 15) rfl ?_
  refine o_i2b X0 hx (hb hby d_method_3_code_15) (v := p1.toInt8.toInt32) rfl (n := 16) rfl ?_
  exact o_nreturn X0 hx hret hlk (t := .byte) (by simp) (hb hby d_method_3_code_16) (by decide) (by decide) e0 ⟨congrArg (fun q => some (Value.int q)) (o_nar8 _), rfl, rfl⟩
theorem d_method_3_code_17 : decode method_3_code 17 = .ok (.iload 4, 2) := by decide +kernel
theorem d_method_3_code_19 : decode method_3_code 19 = .ok (.iconst 2, 1) := by decide +kernel
theorem d_method_3_code_20 : decode method_3_code 20 = .ok (.if_icmp .ne 6, 3) := by decide +kernel
theorem d_method_3_code_23 : decode method_3_code 23 = .ok (.iload_n 2, 1) := by decide +kernel
theorem d_method_3_code_24 : decode method_3_code 24 = .ok (.i2b, 1) := by decide +kernel
theorem d_method_3_code_25 : decode method_3_code 25 = .ok (.ireturn, 1) := by decide +kernel
theorem o_ef8 (m : MethodId) (p0 : Int32) (p1 : Int32) (p2 : Int32) (p3 : Int32) : entryFrame m #[(.int p0), (.int p1), (.int p2), (.int p3), (.int (2 : Int32))] 5 = mkF m 0 #[.val (.int p0), .val (.int p1), .val (.int p2), .val (.int p3), .val (.int (2 : Int32))] [] := by first | (simp [entryFrame, mkF, argsToLocals, Value.category]; done) | rfl
set_option maxRecDepth 65536 in
set_option maxHeartbeats 40000000 in
theorem c_pick_2 (l : Launch) (Z : State) (a0 : Array Value) (hw : ∀ d ∈ tables_1, d.before a0 Z = true) (p0 p1 p2 p3 : Int32) (h0 : Heap) :
    Does l Z (⟨"com/example/estim365/estim365/formats/BytesInReadBytePinLaw", "pick", "(IIIII)B"⟩ : MethodName) method_3_code 5 (some .byte) [] ({ frames := 0, cells := 0, slots := 0, locals := 0 } : Room) #[(.int p0), (.int p1), (.int p2), (.int p3), (.int (2 : Int32))] h0 (Pur h0 (.int p2.toInt8.toInt32)) := by
  refine Does.of (plainFor_of_name o_pn1) ?_
  intro p e s m below meth c T0 hx hby hml hown hnm hret hlk hZ X0 e0
  have hown : s.vm.findClass "com/example/estim365/estim365/formats/BytesInReadBytePinLaw" = some m.cls := hown
  have hml : c.maxLocals = 5 := hml
  have hret : meth.sig.returnType = some .byte := hret
  refine o_entry (o_ef8 m p0 p1 p2 p3) ?_
  refine o_iload X0 hx (hb hby d_method_3_code_0) (v := (2 : Int32)) rfl (n := 2) rfl ?_
  refine o_ifY X0 hx (hb hby d_method_3_code_2) (XT.i0_ne_t (by decide)) (by decide) (n := 8) (by decide) ?_
  refine o_iload X0 hx (hb hby d_method_3_code_8) (v := (2 : Int32)) rfl (n := 10) rfl ?_
  refine o_iconst X0 hx (hb hby d_method_3_code_10) (v := (1 : Int32)) rfl (n := 11) rfl ?_
  refine o_icmpY X0 hx (hb hby d_method_3_code_11) (XT.ii_ne_t (by decide)) (by decide) (n := 17) (by decide) ?_
  refine o_iload X0 hx (hb hby d_method_3_code_17) (v := (2 : Int32)) rfl (n := 19) rfl ?_
  refine o_iconst X0 hx (hb hby d_method_3_code_19) (v := (2 : Int32)) rfl (n := 20) rfl ?_
  refine o_icmpN X0 hx (hb hby d_method_3_code_20) (XT.ii_ne_f (by decide)) (n := 23) rfl ?_
  refine o_iloadN X0 hx (hb hby d_method_3_code_23) (v := p2) rfl (n := 24) rfl ?_
  refine o_i2b X0 hx (hb hby d_method_3_code_24) (v := p2.toInt8.toInt32) rfl (n := 25) rfl ?_
  exact o_nreturn X0 hx hret hlk (t := .byte) (by simp) (hb hby d_method_3_code_25) (by decide) (by decide) e0 ⟨congrArg (fun q => some (Value.int q)) (o_nar8 _), rfl, rfl⟩
theorem d_method_3_code_26 : decode method_3_code 26 = .ok (.iload_n 3, 1) := by decide +kernel
theorem d_method_3_code_27 : decode method_3_code 27 = .ok (.i2b, 1) := by decide +kernel
theorem d_method_3_code_28 : decode method_3_code 28 = .ok (.ireturn, 1) := by decide +kernel
theorem o_ef9 (m : MethodId) (p0 : Int32) (p1 : Int32) (p2 : Int32) (p3 : Int32) : entryFrame m #[(.int p0), (.int p1), (.int p2), (.int p3), (.int (3 : Int32))] 5 = mkF m 0 #[.val (.int p0), .val (.int p1), .val (.int p2), .val (.int p3), .val (.int (3 : Int32))] [] := by first | (simp [entryFrame, mkF, argsToLocals, Value.category]; done) | rfl
set_option maxRecDepth 65536 in
set_option maxHeartbeats 40000000 in
theorem c_pick_3 (l : Launch) (Z : State) (a0 : Array Value) (hw : ∀ d ∈ tables_1, d.before a0 Z = true) (p0 p1 p2 p3 : Int32) (h0 : Heap) :
    Does l Z (⟨"com/example/estim365/estim365/formats/BytesInReadBytePinLaw", "pick", "(IIIII)B"⟩ : MethodName) method_3_code 5 (some .byte) [] ({ frames := 0, cells := 0, slots := 0, locals := 0 } : Room) #[(.int p0), (.int p1), (.int p2), (.int p3), (.int (3 : Int32))] h0 (Pur h0 (.int p3.toInt8.toInt32)) := by
  refine Does.of (plainFor_of_name o_pn1) ?_
  intro p e s m below meth c T0 hx hby hml hown hnm hret hlk hZ X0 e0
  have hown : s.vm.findClass "com/example/estim365/estim365/formats/BytesInReadBytePinLaw" = some m.cls := hown
  have hml : c.maxLocals = 5 := hml
  have hret : meth.sig.returnType = some .byte := hret
  refine o_entry (o_ef9 m p0 p1 p2 p3) ?_
  refine o_iload X0 hx (hb hby d_method_3_code_0) (v := (3 : Int32)) rfl (n := 2) rfl ?_
  refine o_ifY X0 hx (hb hby d_method_3_code_2) (XT.i0_ne_t (by decide)) (by decide) (n := 8) (by decide) ?_
  refine o_iload X0 hx (hb hby d_method_3_code_8) (v := (3 : Int32)) rfl (n := 10) rfl ?_
  refine o_iconst X0 hx (hb hby d_method_3_code_10) (v := (1 : Int32)) rfl (n := 11) rfl ?_
  refine o_icmpY X0 hx (hb hby d_method_3_code_11) (XT.ii_ne_t (by decide)) (by decide) (n := 17) (by decide) ?_
  refine o_iload X0 hx (hb hby d_method_3_code_17) (v := (3 : Int32)) rfl (n := 19) rfl ?_
  refine o_iconst X0 hx (hb hby d_method_3_code_19) (v := (2 : Int32)) rfl (n := 20) rfl ?_
  refine o_icmpY X0 hx (hb hby d_method_3_code_20) (XT.ii_ne_t (by decide)) (by decide) (n := 26) (by decide) ?_
  refine o_iloadN X0 hx (hb hby d_method_3_code_26) (v := p3) rfl (n := 27) rfl ?_
  refine o_i2b X0 hx (hb hby d_method_3_code_27) (v := p3.toInt8.toInt32) rfl (n := 28) rfl ?_
  exact o_nreturn X0 hx hret hlk (t := .byte) (by simp) (hb hby d_method_3_code_28) (by decide) (by decide) e0 ⟨congrArg (fun q => some (Value.int q)) (o_nar8 _), rfl, rfl⟩
theorem d_prog_78_method_2_code_0 : decode prog_78_method_2_code 0 = .ok (.aload_n 0, 1) := by decide +kernel
theorem d_prog_78_method_2_code_1 : decode prog_78_method_2_code 1 = .ok (.getfield 13, 3) := by decide +kernel
theorem d_prog_78_method_2_code_4 : decode prog_78_method_2_code 4 = .ok (.ireturn, 1) := by decide +kernel
theorem o_ef10 (m : MethodId) (a1 : Addr) : entryFrame m #[(.ref a1)] 1 = mkF m 0 #[.val (.ref a1)] [] := by first | (simp [entryFrame, mkF, argsToLocals, Value.category]; done) | rfl
set_option maxRecDepth 65536 in
set_option maxHeartbeats 40000000 in
theorem c_pos (l : Launch) (Z : State) (a0 : Array Value) (hw : ∀ d ∈ tables_1, d.before a0 Z = true) (a1 : Addr) (w : Int32) (h0 : Heap) (pF_a1_position : Fld Z h0 a1 "com/example/estim365/estim365/formats/BytesIn" "position" "I" (.int w)) :
    Does l Z (⟨"com/example/estim365/estim365/formats/BytesIn", "position", "()I"⟩ : MethodName) prog_78_method_2_code 1 (some .int) [] ({ frames := 0, cells := 0, slots := 0, locals := 0 } : Room) #[(.ref a1)] h0 (Pur h0 (.int w)) := by
  refine Does.of (plainFor_of_name o_pn0) ?_
  intro p e s m below meth c T0 hx hby hml hown hnm hret hlk hZ X0 e0
  have hown : s.vm.findClass "com/example/estim365/estim365/formats/BytesIn" = some m.cls := hown
  have hml : c.maxLocals = 1 := hml
  have hret : meth.sig.returnType = some .int := hret
  refine o_entry (o_ef10 m a1) ?_
  refine o_aloadN X0 hx (hb hby d_prog_78_method_2_code_0) (v := (.ref a1)) rfl rfl (n := 1) rfl ?_
  refine o_getfield X0 hx hZ hown (host := "") (Or.inl (hw _ (List.mem_of_getElem? (i := 12) rfl))) Via.refl e0 pF_a1_position (hb hby d_prog_78_method_2_code_1) (n := 4) rfl ?_
  intro T1 X1 e1
  exact o_ireturn X1 hx hret hlk (hb hby d_prog_78_method_2_code_4) (by decide) (by decide) e1 ⟨rfl, rfl, rfl⟩
theorem o_pd0 : parseMethodDescriptor "([BI)V" = some ⟨[(.array .byte), .int], none⟩ := by decide +kernel
theorem o_pd1 : parseMethodDescriptor "()B" = some ⟨[], some .byte⟩ := by decide +kernel
theorem o_pd2 : parseMethodDescriptor "(IIIII)B" = some ⟨[.int, .int, .int, .int, .int], some .byte⟩ := by decide +kernel
theorem o_pd3 : parseMethodDescriptor "()I" = some ⟨[], some .int⟩ := by decide +kernel
theorem o_ef11 (m : MethodId) (p0 : Int32) (p1 : Int32) (p2 : Int32) (p3 : Int32) (p4 : Int32) : entryFrame m #[(.int p0), (.int p1), (.int p2), (.int p3), (.int p4)] maxLocals = mkF m 0 #[.val (.int p0), .val (.int p1), .val (.int p2), .val (.int p3), .val (.int p4), .unset, .unset, .unset, .unset, .unset, .unset] [] := by first | (simp [entryFrame, mkF, argsToLocals, Value.category, maxLocals]; done) | rfl
set_option maxRecDepth 65536 in
set_option maxHeartbeats 40000000 in
theorem o_law (l : Launch) (Z : State) (a0 : Array Value) (hw : ∀ d ∈ tables_1, d.before a0 Z = true) (p0 : Int32) (p1 : Int32) (p2 : Int32) (p3 : Int32) (p4 : Int32) (h0 : Heap) (n0 : Nat) (Z0 : n0 ≤ h0.size) :
    Does l Z x code maxLocals ret tables_1 room_1 #[(.int p0), (.int p1), (.int p2), (.int p3), (.int p4)] h0 (fun v h L => v = some (.int 1) ∧ Fr n0 L) := by
  refine Does.of (plainFor_of_name o_pn1) ?_
  intro p e s m below meth c T0 hx hby hml hown hnm hret hlk hZ X0 e0
  have hown : s.vm.findClass "com/example/estim365/estim365/formats/BytesInReadBytePinLaw" = some m.cls := hown
  have hml : c.maxLocals = 11 := hml
  have hret : meth.sig.returnType = some .boolean := hret
  refine o_entry (o_ef11 m p0 p1 p2 p3 p4) ?_
  have N0 := Fr.nil n0
  rcases o_and3 p4 with q | q | q | q
  · refine o_iconst X0 hx (hb hby at_0) (v := (4 : Int32)) rfl (n := 1) rfl ?_
    refine o_newarray X0 hx hZ (aty := .byte) (hw _ (List.mem_of_getElem? (i := 0) rfl)) e0 (hb hby at_1) (by decide) 4 (by decide) (by decide) (by decide) (by decide) (n := 3) rfl ?_
    intro T1 h1 b1 k1 X1 e1 g1 E1 V1
    have gg1 : n0 ≤ b1 := Nat.le_trans Z0 (Nat.le_of_eq g1.symm)
    have zz1 : n0 ≤ h1.size := Nat.le_trans Z0 E1.1
    have f2 : Arv Z h1 b1 k1 .byte (4 : Int32) [(.int (0 : Int32)), (.int (0 : Int32)), (.int (0 : Int32)), (.int (0 : Int32))] (.int (0 : Int32)) := V1.pad (pad_rep [] (.int (0 : Int32)) 4)
    refine o_astore X1 hx (hb hby at_3) rfl (Ls' := #[.val (.int p0), .val (.int p1), .val (.int p2), .val (.int p3), .val (.int p4), .val (.ref b1), .unset, .unset, .unset, .unset, .unset]) rfl (n := 5) rfl ?_
    refine o_aload X1 hx (hb hby at_5) (v := (.ref b1)) rfl rfl (n := 7) rfl ?_
    refine o_iconst X1 hx (hb hby at_7) (v := (0 : Int32)) rfl (n := 8) rfl ?_
    refine o_iloadN X1 hx (hb hby at_8) (v := p0) rfl (n := 9) rfl ?_
    refine o_i2b X1 hx (hb hby at_9) (v := p0.toInt8.toInt32) rfl (n := 10) rfl ?_
    refine o_bastore X1 hx hZ e1 f2 (0) (by decide) (by decide) (Nat.le_of_ble_eq_true rfl) (w := (.int p0.toInt8.toInt32)) (congrArg Value.int (o_nar8 _)) (vs' := [(.int p0.toInt8.toInt32), (.int (0 : Int32)), (.int (0 : Int32)), (.int (0 : Int32))]) rfl (hb hby at_10) (n := 11) rfl ?_
    intro T3 h3 X3 e3 W3 V3
    have zz3 : n0 ≤ h3.size := Nat.le_trans zz1 (Nat.le_of_eq W3.size.symm)
    have N4 := Fr.snoc X3 N0 gg1
    refine o_aload X3 hx (hb hby at_11) (v := (.ref b1)) rfl rfl (n := 13) rfl ?_
    refine o_iconst X3 hx (hb hby at_13) (v := (1 : Int32)) rfl (n := 14) rfl ?_
    refine o_iloadN X3 hx (hb hby at_14) (v := p1) rfl (n := 15) rfl ?_
    refine o_i2b X3 hx (hb hby at_15) (v := p1.toInt8.toInt32) rfl (n := 16) rfl ?_
    refine o_bastore X3 hx hZ e3 V3 (1) (by decide) (by decide) (Nat.le_of_ble_eq_true rfl) (w := (.int p1.toInt8.toInt32)) (congrArg Value.int (o_nar8 _)) (vs' := [(.int p0.toInt8.toInt32), (.int p1.toInt8.toInt32), (.int (0 : Int32)), (.int (0 : Int32))]) rfl (hb hby at_16) (n := 17) rfl ?_
    intro T5 h5 X5 e5 W5 V5
    have zz5 : n0 ≤ h5.size := Nat.le_trans zz3 (Nat.le_of_eq W5.size.symm)
    have N6 := Fr.snoc X5 N4 gg1
    refine o_aload X5 hx (hb hby at_17) (v := (.ref b1)) rfl rfl (n := 19) rfl ?_
    refine o_iconst X5 hx (hb hby at_19) (v := (2 : Int32)) rfl (n := 20) rfl ?_
    refine o_iloadN X5 hx (hb hby at_20) (v := p2) rfl (n := 21) rfl ?_
    refine o_i2b X5 hx (hb hby at_21) (v := p2.toInt8.toInt32) rfl (n := 22) rfl ?_
    refine o_bastore X5 hx hZ e5 V5 (2) (by decide) (by decide) (Nat.le_of_ble_eq_true rfl) (w := (.int p2.toInt8.toInt32)) (congrArg Value.int (o_nar8 _)) (vs' := [(.int p0.toInt8.toInt32), (.int p1.toInt8.toInt32), (.int p2.toInt8.toInt32), (.int (0 : Int32))]) rfl (hb hby at_22) (n := 23) rfl ?_
    intro T7 h7 X7 e7 W7 V7
    have zz7 : n0 ≤ h7.size := Nat.le_trans zz5 (Nat.le_of_eq W7.size.symm)
    have N8 := Fr.snoc X7 N6 gg1
    refine o_aload X7 hx (hb hby at_23) (v := (.ref b1)) rfl rfl (n := 25) rfl ?_
    refine o_iconst X7 hx (hb hby at_25) (v := (3 : Int32)) rfl (n := 26) rfl ?_
    refine o_iloadN X7 hx (hb hby at_26) (v := p3) rfl (n := 27) rfl ?_
    refine o_i2b X7 hx (hb hby at_27) (v := p3.toInt8.toInt32) rfl (n := 28) rfl ?_
    refine o_bastore X7 hx hZ e7 V7 (3) (by decide) (by decide) (Nat.le_of_ble_eq_true rfl) (w := (.int p3.toInt8.toInt32)) (congrArg Value.int (o_nar8 _)) (vs' := [(.int p0.toInt8.toInt32), (.int p1.toInt8.toInt32), (.int p2.toInt8.toInt32), (.int p3.toInt8.toInt32)]) rfl (hb hby at_28) (n := 29) rfl ?_
    intro T9 h9 X9 e9 W9 V9
    have zz9 : n0 ≤ h9.size := Nat.le_trans zz7 (Nat.le_of_eq W9.size.symm)
    have N10 := Fr.snoc X9 N8 gg1
    refine o_iload X9 hx (hb hby at_29) (v := p4) rfl (n := 31) rfl ?_
    refine o_iconst X9 hx (hb hby at_31) (v := (3 : Int32)) rfl (n := 32) rfl ?_
    refine o_iand X9 hx (hb hby at_32) (v := (0 : Int32)) q (n := 33) rfl ?_
    refine o_istore X9 hx (hb hby at_33) (Ls' := #[.val (.int p0), .val (.int p1), .val (.int p2), .val (.int p3), .val (.int p4), .val (.ref b1), .val (.int (0 : Int32)), .unset, .unset, .unset, .unset]) rfl (n := 35) rfl ?_
    refine o_new X9 hx hZ hown (hw _ (List.mem_of_getElem? (i := 1) rfl)) (hw _ (List.mem_of_getElem? (i := 2) rfl)) (hw _ (List.mem_of_getElem? (i := 3) rfl)) e9 (hb hby at_35) (by decide) (by decide) (n := 38) rfl ?_
    intro T11 h11 b11 X11 e11 g11 E11 A11 D11
    have ne12 : b1 ≠ b11 := Nat.ne_of_lt (Nat.lt_of_lt_of_eq V9.lt g11.symm)
    have gg11 : n0 ≤ b11 := Nat.le_trans zz9 (Nat.le_of_eq g11.symm)
    have zz11 : n0 ≤ h11.size := Nat.le_trans zz9 E11.1
    have f13 := V9.ext E11
    have f14 : Fld Z h11 b11 "com/example/estim365/estim365/formats/BytesIn" "bytes" "[B" .null := D11 (Or.inr (hw _ (List.mem_of_getElem? (i := 11) rfl))) (ty := (.array .byte)) (by decide)
    have f15 : Fld Z h11 b11 "com/example/estim365/estim365/formats/BytesIn" "position" "I" (.int (0 : Int32)) := D11 (Or.inl (hw _ (List.mem_of_getElem? (i := 13) rfl))) (ty := .int) (by decide)
    refine o_dup X11 hx (hb hby at_38) rfl (n := 39) rfl ?_
    refine o_aload X11 hx (hb hby at_39) (v := (.ref b1)) rfl rfl (n := 41) rfl ?_
    refine o_iload X11 hx (hb hby at_41) (v := (0 : Int32)) rfl (n := 43) rfl ?_
    refine o_callN X11 hx hZ rfl hown (hw _ (List.mem_of_getElem? (i := 4) rfl)) (hw _ (List.mem_of_getElem? (i := 5) rfl)) (hw _ (List.mem_of_getElem? (i := 3) rfl)) (hw _ (List.mem_of_getElem? (i := 6) rfl)) (by decide) e11 (a := b11) (argsL := [(.ref b1), (.int (0 : Int32))]) (rest := [(.ref b11)]) (c_init l Z a0 hw b11 b1 (0 : Int32) h11 n0 zz11 gg11 A11 f14 f15) 1 (by decide) (by decide) (by decide) (by decide) (by rw [hml]; rfl) (lenOf o_pd0 rfl) rfl (Nat.le_of_eq rfl) (hb hby at_43) (n := 46) rfl ?_
    intro v16 T16 L16 X16 q16
    obtain ⟨rfl, Nq16, K16, o16_0, o16_1, o16_2⟩ := q16
    have N17 := Fr.app N10 Nq16
    have f18 := f13.keep K16 (ninS ne12 nin0)
    have f19 := A11.keep K16
    have zz16 : n0 ≤ T16.heap.size := Nat.le_trans zz11 K16.1
    show Goes p e below s _ _ _ (T16.setTop (mkF m 46 #[.val (.int p0), .val (.int p1), .val (.int p2), .val (.int p3), .val (.int p4), .val (.ref b1), .val (.int (0 : Int32)), .unset, .unset, .unset, .unset] [(.ref b11)]))
    refine o_astore X16 hx (hb hby at_46) rfl (Ls' := #[.val (.int p0), .val (.int p1), .val (.int p2), .val (.int p3), .val (.int p4), .val (.ref b1), .val (.int (0 : Int32)), .val (.ref b11), .unset, .unset, .unset]) rfl (n := 48) rfl ?_
    refine o_aload X16 hx (hb hby at_48) (v := (.ref b11)) rfl rfl (n := 50) rfl ?_
    refine o_callV X16 hx hZ hown (hw _ (List.mem_of_getElem? (i := 14) rfl)) (hw _ (List.mem_of_getElem? (i := 15) rfl)) (hw _ (List.mem_of_getElem? (i := 17) rfl)) (hw _ (List.mem_of_getElem? (i := 16) rfl)) (hw _ (List.mem_of_getElem? (i := 3) rfl)) (hw _ (List.mem_of_getElem? (i := 18) rfl)) (by decide) (rfl : T16.heap = T16.heap) o16_0 (argsL := []) (rest := []) (c_read_0 l Z a0 hw b11 b1 k1 p0.toInt8.toInt32 p1.toInt8.toInt32 p2.toInt8.toInt32 p3.toInt8.toInt32 T16.heap n0 zz16 gg11 o16_0 o16_1 o16_2 f18 ne12 (o_nar8 _)) 0 (by decide) (by decide) (by decide) (by decide) (by rw [hml]; rfl) (lenOf o_pd1 rfl) rfl (Nat.le_of_eq rfl) (hb hby at_50) (n := 53) rfl ?_
    intro v22 T22 L22 X22 q22
    obtain ⟨rfl, Nq22, K22, o22_0, o22_1, o22_2⟩ := q22
    have N23 := Fr.app N17 Nq22
    have f24 := f18.keep K22 (ninS ne12 nin0)
    have f25 := o16_0.keep K22
    have zz22 : n0 ≤ T22.heap.size := Nat.le_trans zz16 K22.1
    show Goes p e below s _ _ _ (T22.setTop (mkF m 53 #[.val (.int p0), .val (.int p1), .val (.int p2), .val (.int p3), .val (.int p4), .val (.ref b1), .val (.int (0 : Int32)), .val (.ref b11), .unset, .unset, .unset] [(.int p0.toInt8.toInt32)]))
    refine o_istore X22 hx (hb hby at_53) (Ls' := #[.val (.int p0), .val (.int p1), .val (.int p2), .val (.int p3), .val (.int p4), .val (.ref b1), .val (.int (0 : Int32)), .val (.ref b11), .val (.int p0.toInt8.toInt32), .unset, .unset]) rfl (n := 55) rfl ?_
    refine o_iload X22 hx (hb hby at_55) (v := p0.toInt8.toInt32) rfl (n := 57) rfl ?_
    refine o_iloadN X22 hx (hb hby at_57) (v := p0) rfl (n := 58) rfl ?_
    refine o_iloadN X22 hx (hb hby at_58) (v := p1) rfl (n := 59) rfl ?_
    refine o_iloadN X22 hx (hb hby at_59) (v := p2) rfl (n := 60) rfl ?_
    refine o_iloadN X22 hx (hb hby at_60) (v := p3) rfl (n := 61) rfl ?_
    refine o_iload X22 hx (hb hby at_61) (v := (0 : Int32)) rfl (n := 63) rfl ?_
    refine o_callS X22 hx hZ hown (hw _ (List.mem_of_getElem? (i := 19) rfl)) (hw _ (List.mem_of_getElem? (i := 20) rfl)) (hw _ (List.mem_of_getElem? (i := 21) rfl)) (hw _ (List.mem_of_getElem? (i := 22) rfl)) (by decide) (rfl : T22.heap = T22.heap) (argsL := [(.int p0), (.int p1), (.int p2), (.int p3), (.int (0 : Int32))]) (rest := [(.int p0.toInt8.toInt32)]) (c_pick_0 l Z a0 hw p0 p1 p2 p3 T22.heap) 1 (by decide) (by decide) (by decide) (by decide) (by rw [hml]; rfl) (lenOf o_pd2 rfl) rfl (Nat.le_of_eq rfl) (hb hby at_63) (n := 66) rfl ?_
    intro v28 T28 L28 X28 q28
    obtain ⟨rfl, e28, rfl⟩ := q28
    have N29 := Fr.app N23 (Fr.nil n0)
    show Goes p e below s _ _ _ (T28.setTop (mkF m 66 #[.val (.int p0), .val (.int p1), .val (.int p2), .val (.int p3), .val (.int p4), .val (.ref b1), .val (.int (0 : Int32)), .val (.ref b11), .val (.int p0.toInt8.toInt32), .unset, .unset] [(.int p0.toInt8.toInt32), (.int p0.toInt8.toInt32)]))
    refine o_icmpN X28 hx (hb hby at_66) (XT.ii_ne_f rfl) (n := 69) rfl ?_
    refine o_aload X28 hx (hb hby at_69) (v := (.ref b11)) rfl rfl (n := 71) rfl ?_
    refine o_callV X28 hx hZ hown (hw _ (List.mem_of_getElem? (i := 23) rfl)) (hw _ (List.mem_of_getElem? (i := 24) rfl)) (hw _ (List.mem_of_getElem? (i := 26) rfl)) (hw _ (List.mem_of_getElem? (i := 25) rfl)) (hw _ (List.mem_of_getElem? (i := 3) rfl)) (hw _ (List.mem_of_getElem? (i := 27) rfl)) (by decide) e28 o22_0 (argsL := []) (rest := []) (c_pos l Z a0 hw b11 (1 : Int32) T22.heap o22_2) 0 (by decide) (by decide) (by decide) (by decide) (by rw [hml]; rfl) (lenOf o_pd3 rfl) rfl (Nat.le_of_eq rfl) (hb hby at_71) (n := 74) rfl ?_
    intro v30 T30 L30 X30 q30
    obtain ⟨rfl, e30, rfl⟩ := q30
    have N31 := Fr.app N29 (Fr.nil n0)
    show Goes p e below s _ _ _ (T30.setTop (mkF m 74 #[.val (.int p0), .val (.int p1), .val (.int p2), .val (.int p3), .val (.int p4), .val (.ref b1), .val (.int (0 : Int32)), .val (.ref b11), .val (.int p0.toInt8.toInt32), .unset, .unset] [(.int (1 : Int32))]))
    refine o_iload X30 hx (hb hby at_74) (v := (0 : Int32)) rfl (n := 76) rfl ?_
    refine o_iconst X30 hx (hb hby at_76) (v := (1 : Int32)) rfl (n := 77) rfl ?_
    refine o_iadd X30 hx (hb hby at_77) (v := (1 : Int32)) (by decide) (n := 78) rfl ?_
    refine o_icmpN X30 hx (hb hby at_78) (XT.ii_ne_f (by decide)) (n := 81) rfl ?_
    refine o_iconst X30 hx (hb hby at_81) (v := (1 : Int32)) rfl (n := 82) rfl ?_
    refine o_goto X30 hx (hb hby at_82) (by decide) (n := 86) (by decide) ?_
    refine o_istore X30 hx (hb hby at_86) (Ls' := #[.val (.int p0), .val (.int p1), .val (.int p2), .val (.int p3), .val (.int p4), .val (.ref b1), .val (.int (0 : Int32)), .val (.ref b11), .val (.int p0.toInt8.toInt32), .val (.int (1 : Int32)), .unset]) rfl (n := 88) rfl ?_
    refine o_iload X30 hx (hb hby at_88) (v := (0 : Int32)) rfl (n := 90) rfl ?_
    refine o_iconst X30 hx (hb hby at_90) (v := (3 : Int32)) rfl (n := 91) rfl ?_
    refine o_icmpN X30 hx (hb hby at_91) (XT.ii_ge_f (by decide)) (n := 94) rfl ?_
    refine o_aload X30 hx (hb hby at_94) (v := (.ref b11)) rfl rfl (n := 96) rfl ?_
    refine o_callV X30 hx hZ hown (hw _ (List.mem_of_getElem? (i := 14) rfl)) (hw _ (List.mem_of_getElem? (i := 15) rfl)) (hw _ (List.mem_of_getElem? (i := 17) rfl)) (hw _ (List.mem_of_getElem? (i := 16) rfl)) (hw _ (List.mem_of_getElem? (i := 3) rfl)) (hw _ (List.mem_of_getElem? (i := 18) rfl)) (by decide) e30 o22_0 (argsL := []) (rest := []) (c_read_1 l Z a0 hw b11 b1 k1 p0.toInt8.toInt32 p1.toInt8.toInt32 p2.toInt8.toInt32 p3.toInt8.toInt32 T22.heap n0 zz22 gg11 o22_0 o22_1 o22_2 f24 ne12 (o_nar8 _)) 0 (by decide) (by decide) (by decide) (by decide) (by rw [hml]; rfl) (lenOf o_pd1 rfl) rfl (Nat.le_of_eq rfl) (hb hby at_96) (n := 99) rfl ?_
    intro v32 T32 L32 X32 q32
    obtain ⟨rfl, Nq32, K32, o32_0, o32_1, o32_2⟩ := q32
    have N33 := Fr.app N31 Nq32
    have f34 := f24.keep K32 (ninS ne12 nin0)
    have f35 := o22_0.keep K32
    have zz32 : n0 ≤ T32.heap.size := Nat.le_trans zz22 K32.1
    show Goes p e below s _ _ _ (T32.setTop (mkF m 99 #[.val (.int p0), .val (.int p1), .val (.int p2), .val (.int p3), .val (.int p4), .val (.ref b1), .val (.int (0 : Int32)), .val (.ref b11), .val (.int p0.toInt8.toInt32), .val (.int (1 : Int32)), .unset] [(.int p1.toInt8.toInt32)]))
    refine o_istore X32 hx (hb hby at_99) (Ls' := #[.val (.int p0), .val (.int p1), .val (.int p2), .val (.int p3), .val (.int p4), .val (.ref b1), .val (.int (0 : Int32)), .val (.ref b11), .val (.int p0.toInt8.toInt32), .val (.int (1 : Int32)), .val (.int p1.toInt8.toInt32)]) rfl (n := 101) rfl ?_
    refine o_iload X32 hx (hb hby at_101) (v := (1 : Int32)) rfl (n := 103) rfl ?_
    refine o_ifN X32 hx (hb hby at_103) (XT.i0_eq_f (by decide)) (n := 106) rfl ?_
    refine o_iload X32 hx (hb hby at_106) (v := p1.toInt8.toInt32) rfl (n := 108) rfl ?_
    refine o_iloadN X32 hx (hb hby at_108) (v := p0) rfl (n := 109) rfl ?_
    refine o_iloadN X32 hx (hb hby at_109) (v := p1) rfl (n := 110) rfl ?_
    refine o_iloadN X32 hx (hb hby at_110) (v := p2) rfl (n := 111) rfl ?_
    refine o_iloadN X32 hx (hb hby at_111) (v := p3) rfl (n := 112) rfl ?_
    refine o_iload X32 hx (hb hby at_112) (v := (0 : Int32)) rfl (n := 114) rfl ?_
    refine o_iconst X32 hx (hb hby at_114) (v := (1 : Int32)) rfl (n := 115) rfl ?_
    refine o_iadd X32 hx (hb hby at_115) (v := (1 : Int32)) (by decide) (n := 116) rfl ?_
    refine o_callS X32 hx hZ hown (hw _ (List.mem_of_getElem? (i := 19) rfl)) (hw _ (List.mem_of_getElem? (i := 20) rfl)) (hw _ (List.mem_of_getElem? (i := 21) rfl)) (hw _ (List.mem_of_getElem? (i := 22) rfl)) (by decide) (rfl : T32.heap = T32.heap) (argsL := [(.int p0), (.int p1), (.int p2), (.int p3), (.int (1 : Int32))]) (rest := [(.int p1.toInt8.toInt32)]) (c_pick_1 l Z a0 hw p0 p1 p2 p3 T32.heap) 1 (by decide) (by decide) (by decide) (by decide) (by rw [hml]; rfl) (lenOf o_pd2 rfl) rfl (Nat.le_of_eq rfl) (hb hby at_116) (n := 119) rfl ?_
    intro v38 T38 L38 X38 q38
    obtain ⟨rfl, e38, rfl⟩ := q38
    have N39 := Fr.app N33 (Fr.nil n0)
    show Goes p e below s _ _ _ (T38.setTop (mkF m 119 #[.val (.int p0), .val (.int p1), .val (.int p2), .val (.int p3), .val (.int p4), .val (.ref b1), .val (.int (0 : Int32)), .val (.ref b11), .val (.int p0.toInt8.toInt32), .val (.int (1 : Int32)), .val (.int p1.toInt8.toInt32)] [(.int p1.toInt8.toInt32), (.int p1.toInt8.toInt32)]))
    refine o_icmpN X38 hx (hb hby at_119) (XT.ii_ne_f rfl) (n := 122) rfl ?_
    refine o_aload X38 hx (hb hby at_122) (v := (.ref b11)) rfl rfl (n := 124) rfl ?_
    refine o_callV X38 hx hZ hown (hw _ (List.mem_of_getElem? (i := 23) rfl)) (hw _ (List.mem_of_getElem? (i := 24) rfl)) (hw _ (List.mem_of_getElem? (i := 26) rfl)) (hw _ (List.mem_of_getElem? (i := 25) rfl)) (hw _ (List.mem_of_getElem? (i := 3) rfl)) (hw _ (List.mem_of_getElem? (i := 27) rfl)) (by decide) e38 o32_0 (argsL := []) (rest := []) (c_pos l Z a0 hw b11 (2 : Int32) T32.heap o32_2) 0 (by decide) (by decide) (by decide) (by decide) (by rw [hml]; rfl) (lenOf o_pd3 rfl) rfl (Nat.le_of_eq rfl) (hb hby at_124) (n := 127) rfl ?_
    intro v40 T40 L40 X40 q40
    obtain ⟨rfl, e40, rfl⟩ := q40
    have N41 := Fr.app N39 (Fr.nil n0)
    show Goes p e below s _ _ _ (T40.setTop (mkF m 127 #[.val (.int p0), .val (.int p1), .val (.int p2), .val (.int p3), .val (.int p4), .val (.ref b1), .val (.int (0 : Int32)), .val (.ref b11), .val (.int p0.toInt8.toInt32), .val (.int (1 : Int32)), .val (.int p1.toInt8.toInt32)] [(.int (2 : Int32))]))
    refine o_iload X40 hx (hb hby at_127) (v := (0 : Int32)) rfl (n := 129) rfl ?_
    refine o_iconst X40 hx (hb hby at_129) (v := (2 : Int32)) rfl (n := 130) rfl ?_
    refine o_iadd X40 hx (hb hby at_130) (v := (2 : Int32)) (by decide) (n := 131) rfl ?_
    refine o_icmpN X40 hx (hb hby at_131) (XT.ii_ne_f (by decide)) (n := 134) rfl ?_
    refine o_iconst X40 hx (hb hby at_134) (v := (1 : Int32)) rfl (n := 135) rfl ?_
    refine o_goto X40 hx (hb hby at_135) (by decide) (n := 139) (by decide) ?_
    refine o_istore X40 hx (hb hby at_139) (Ls' := #[.val (.int p0), .val (.int p1), .val (.int p2), .val (.int p3), .val (.int p4), .val (.ref b1), .val (.int (0 : Int32)), .val (.ref b11), .val (.int p0.toInt8.toInt32), .val (.int (1 : Int32)), .val (.int p1.toInt8.toInt32)]) rfl (n := 141) rfl ?_
    refine o_iload X40 hx (hb hby at_141) (v := (1 : Int32)) rfl (n := 143) rfl ?_
    refine o_ifN X40 hx (hb hby at_143) (XT.i0_eq_f (by decide)) (n := 146) rfl ?_
    refine o_aload X40 hx (hb hby at_146) (v := (.ref b1)) rfl rfl (n := 148) rfl ?_
    refine o_iconst X40 hx (hb hby at_148) (v := (0 : Int32)) rfl (n := 149) rfl ?_
    refine o_baload X40 hx hZ e40 f34 (0) (by decide) (by decide) (v := (.int p0.toInt8.toInt32)) rfl (hb hby at_149) (n := 150) rfl ?_
    refine o_iloadN X40 hx (hb hby at_150) (v := p0) rfl (n := 151) rfl ?_
    refine o_i2b X40 hx (hb hby at_151) (v := p0.toInt8.toInt32) rfl (n := 152) rfl ?_
    refine o_icmpN X40 hx (hb hby at_152) (XT.ii_ne_f rfl) (n := 155) rfl ?_
    refine o_aload X40 hx (hb hby at_155) (v := (.ref b1)) rfl rfl (n := 157) rfl ?_
    refine o_iconst X40 hx (hb hby at_157) (v := (1 : Int32)) rfl (n := 158) rfl ?_
    refine o_baload X40 hx hZ e40 f34 (1) (by decide) (by decide) (v := (.int p1.toInt8.toInt32)) rfl (hb hby at_158) (n := 159) rfl ?_
    refine o_iloadN X40 hx (hb hby at_159) (v := p1) rfl (n := 160) rfl ?_
    refine o_i2b X40 hx (hb hby at_160) (v := p1.toInt8.toInt32) rfl (n := 161) rfl ?_
    refine o_icmpN X40 hx (hb hby at_161) (XT.ii_ne_f rfl) (n := 164) rfl ?_
    refine o_aload X40 hx (hb hby at_164) (v := (.ref b1)) rfl rfl (n := 166) rfl ?_
    refine o_iconst X40 hx (hb hby at_166) (v := (2 : Int32)) rfl (n := 167) rfl ?_
    refine o_baload X40 hx hZ e40 f34 (2) (by decide) (by decide) (v := (.int p2.toInt8.toInt32)) rfl (hb hby at_167) (n := 168) rfl ?_
    refine o_iloadN X40 hx (hb hby at_168) (v := p2) rfl (n := 169) rfl ?_
    refine o_i2b X40 hx (hb hby at_169) (v := p2.toInt8.toInt32) rfl (n := 170) rfl ?_
    refine o_icmpN X40 hx (hb hby at_170) (XT.ii_ne_f rfl) (n := 173) rfl ?_
    refine o_aload X40 hx (hb hby at_173) (v := (.ref b1)) rfl rfl (n := 175) rfl ?_
    refine o_iconst X40 hx (hb hby at_175) (v := (3 : Int32)) rfl (n := 176) rfl ?_
    refine o_baload X40 hx hZ e40 f34 (3) (by decide) (by decide) (v := (.int p3.toInt8.toInt32)) rfl (hb hby at_176) (n := 177) rfl ?_
    refine o_iloadN X40 hx (hb hby at_177) (v := p3) rfl (n := 178) rfl ?_
    refine o_i2b X40 hx (hb hby at_178) (v := p3.toInt8.toInt32) rfl (n := 179) rfl ?_
    refine o_icmpN X40 hx (hb hby at_179) (XT.ii_ne_f rfl) (n := 182) rfl ?_
    refine o_iconst X40 hx (hb hby at_182) (v := (1 : Int32)) rfl (n := 183) rfl ?_
    refine o_goto X40 hx (hb hby at_183) (by decide) (n := 187) (by decide) ?_
    refine o_istore X40 hx (hb hby at_187) (Ls' := #[.val (.int p0), .val (.int p1), .val (.int p2), .val (.int p3), .val (.int p4), .val (.ref b1), .val (.int (0 : Int32)), .val (.ref b11), .val (.int p0.toInt8.toInt32), .val (.int (1 : Int32)), .val (.int p1.toInt8.toInt32)]) rfl (n := 189) rfl ?_
    refine o_iload X40 hx (hb hby at_189) (v := (1 : Int32)) rfl (n := 191) rfl ?_
    exact o_nreturn X40 hx hret hlk (t := .boolean) (by simp) (hb hby at_191) (by decide) (by decide) e40 ⟨rfl, N41⟩
  · refine o_iconst X0 hx (hb hby at_0) (v := (4 : Int32)) rfl (n := 1) rfl ?_
    refine o_newarray X0 hx hZ (aty := .byte) (hw _ (List.mem_of_getElem? (i := 0) rfl)) e0 (hb hby at_1) (by decide) 4 (by decide) (by decide) (by decide) (by decide) (n := 3) rfl ?_
    intro T42 h42 b42 k42 X42 e42 g42 E42 V42
    have gg42 : n0 ≤ b42 := Nat.le_trans Z0 (Nat.le_of_eq g42.symm)
    have zz42 : n0 ≤ h42.size := Nat.le_trans Z0 E42.1
    have f43 : Arv Z h42 b42 k42 .byte (4 : Int32) [(.int (0 : Int32)), (.int (0 : Int32)), (.int (0 : Int32)), (.int (0 : Int32))] (.int (0 : Int32)) := V42.pad (pad_rep [] (.int (0 : Int32)) 4)
    refine o_astore X42 hx (hb hby at_3) rfl (Ls' := #[.val (.int p0), .val (.int p1), .val (.int p2), .val (.int p3), .val (.int p4), .val (.ref b42), .unset, .unset, .unset, .unset, .unset]) rfl (n := 5) rfl ?_
    refine o_aload X42 hx (hb hby at_5) (v := (.ref b42)) rfl rfl (n := 7) rfl ?_
    refine o_iconst X42 hx (hb hby at_7) (v := (0 : Int32)) rfl (n := 8) rfl ?_
    refine o_iloadN X42 hx (hb hby at_8) (v := p0) rfl (n := 9) rfl ?_
    refine o_i2b X42 hx (hb hby at_9) (v := p0.toInt8.toInt32) rfl (n := 10) rfl ?_
    refine o_bastore X42 hx hZ e42 f43 (0) (by decide) (by decide) (Nat.le_of_ble_eq_true rfl) (w := (.int p0.toInt8.toInt32)) (congrArg Value.int (o_nar8 _)) (vs' := [(.int p0.toInt8.toInt32), (.int (0 : Int32)), (.int (0 : Int32)), (.int (0 : Int32))]) rfl (hb hby at_10) (n := 11) rfl ?_
    intro T44 h44 X44 e44 W44 V44
    have zz44 : n0 ≤ h44.size := Nat.le_trans zz42 (Nat.le_of_eq W44.size.symm)
    have N45 := Fr.snoc X44 N0 gg42
    refine o_aload X44 hx (hb hby at_11) (v := (.ref b42)) rfl rfl (n := 13) rfl ?_
    refine o_iconst X44 hx (hb hby at_13) (v := (1 : Int32)) rfl (n := 14) rfl ?_
    refine o_iloadN X44 hx (hb hby at_14) (v := p1) rfl (n := 15) rfl ?_
    refine o_i2b X44 hx (hb hby at_15) (v := p1.toInt8.toInt32) rfl (n := 16) rfl ?_
    refine o_bastore X44 hx hZ e44 V44 (1) (by decide) (by decide) (Nat.le_of_ble_eq_true rfl) (w := (.int p1.toInt8.toInt32)) (congrArg Value.int (o_nar8 _)) (vs' := [(.int p0.toInt8.toInt32), (.int p1.toInt8.toInt32), (.int (0 : Int32)), (.int (0 : Int32))]) rfl (hb hby at_16) (n := 17) rfl ?_
    intro T46 h46 X46 e46 W46 V46
    have zz46 : n0 ≤ h46.size := Nat.le_trans zz44 (Nat.le_of_eq W46.size.symm)
    have N47 := Fr.snoc X46 N45 gg42
    refine o_aload X46 hx (hb hby at_17) (v := (.ref b42)) rfl rfl (n := 19) rfl ?_
    refine o_iconst X46 hx (hb hby at_19) (v := (2 : Int32)) rfl (n := 20) rfl ?_
    refine o_iloadN X46 hx (hb hby at_20) (v := p2) rfl (n := 21) rfl ?_
    refine o_i2b X46 hx (hb hby at_21) (v := p2.toInt8.toInt32) rfl (n := 22) rfl ?_
    refine o_bastore X46 hx hZ e46 V46 (2) (by decide) (by decide) (Nat.le_of_ble_eq_true rfl) (w := (.int p2.toInt8.toInt32)) (congrArg Value.int (o_nar8 _)) (vs' := [(.int p0.toInt8.toInt32), (.int p1.toInt8.toInt32), (.int p2.toInt8.toInt32), (.int (0 : Int32))]) rfl (hb hby at_22) (n := 23) rfl ?_
    intro T48 h48 X48 e48 W48 V48
    have zz48 : n0 ≤ h48.size := Nat.le_trans zz46 (Nat.le_of_eq W48.size.symm)
    have N49 := Fr.snoc X48 N47 gg42
    refine o_aload X48 hx (hb hby at_23) (v := (.ref b42)) rfl rfl (n := 25) rfl ?_
    refine o_iconst X48 hx (hb hby at_25) (v := (3 : Int32)) rfl (n := 26) rfl ?_
    refine o_iloadN X48 hx (hb hby at_26) (v := p3) rfl (n := 27) rfl ?_
    refine o_i2b X48 hx (hb hby at_27) (v := p3.toInt8.toInt32) rfl (n := 28) rfl ?_
    refine o_bastore X48 hx hZ e48 V48 (3) (by decide) (by decide) (Nat.le_of_ble_eq_true rfl) (w := (.int p3.toInt8.toInt32)) (congrArg Value.int (o_nar8 _)) (vs' := [(.int p0.toInt8.toInt32), (.int p1.toInt8.toInt32), (.int p2.toInt8.toInt32), (.int p3.toInt8.toInt32)]) rfl (hb hby at_28) (n := 29) rfl ?_
    intro T50 h50 X50 e50 W50 V50
    have zz50 : n0 ≤ h50.size := Nat.le_trans zz48 (Nat.le_of_eq W50.size.symm)
    have N51 := Fr.snoc X50 N49 gg42
    refine o_iload X50 hx (hb hby at_29) (v := p4) rfl (n := 31) rfl ?_
    refine o_iconst X50 hx (hb hby at_31) (v := (3 : Int32)) rfl (n := 32) rfl ?_
    refine o_iand X50 hx (hb hby at_32) (v := (1 : Int32)) q (n := 33) rfl ?_
    refine o_istore X50 hx (hb hby at_33) (Ls' := #[.val (.int p0), .val (.int p1), .val (.int p2), .val (.int p3), .val (.int p4), .val (.ref b42), .val (.int (1 : Int32)), .unset, .unset, .unset, .unset]) rfl (n := 35) rfl ?_
    refine o_new X50 hx hZ hown (hw _ (List.mem_of_getElem? (i := 1) rfl)) (hw _ (List.mem_of_getElem? (i := 2) rfl)) (hw _ (List.mem_of_getElem? (i := 3) rfl)) e50 (hb hby at_35) (by decide) (by decide) (n := 38) rfl ?_
    intro T52 h52 b52 X52 e52 g52 E52 A52 D52
    have ne53 : b42 ≠ b52 := Nat.ne_of_lt (Nat.lt_of_lt_of_eq V50.lt g52.symm)
    have gg52 : n0 ≤ b52 := Nat.le_trans zz50 (Nat.le_of_eq g52.symm)
    have zz52 : n0 ≤ h52.size := Nat.le_trans zz50 E52.1
    have f54 := V50.ext E52
    have f55 : Fld Z h52 b52 "com/example/estim365/estim365/formats/BytesIn" "bytes" "[B" .null := D52 (Or.inr (hw _ (List.mem_of_getElem? (i := 11) rfl))) (ty := (.array .byte)) (by decide)
    have f56 : Fld Z h52 b52 "com/example/estim365/estim365/formats/BytesIn" "position" "I" (.int (0 : Int32)) := D52 (Or.inl (hw _ (List.mem_of_getElem? (i := 13) rfl))) (ty := .int) (by decide)
    refine o_dup X52 hx (hb hby at_38) rfl (n := 39) rfl ?_
    refine o_aload X52 hx (hb hby at_39) (v := (.ref b42)) rfl rfl (n := 41) rfl ?_
    refine o_iload X52 hx (hb hby at_41) (v := (1 : Int32)) rfl (n := 43) rfl ?_
    refine o_callN X52 hx hZ rfl hown (hw _ (List.mem_of_getElem? (i := 4) rfl)) (hw _ (List.mem_of_getElem? (i := 5) rfl)) (hw _ (List.mem_of_getElem? (i := 3) rfl)) (hw _ (List.mem_of_getElem? (i := 6) rfl)) (by decide) e52 (a := b52) (argsL := [(.ref b42), (.int (1 : Int32))]) (rest := [(.ref b52)]) (c_init l Z a0 hw b52 b42 (1 : Int32) h52 n0 zz52 gg52 A52 f55 f56) 1 (by decide) (by decide) (by decide) (by decide) (by rw [hml]; rfl) (lenOf o_pd0 rfl) rfl (Nat.le_of_eq rfl) (hb hby at_43) (n := 46) rfl ?_
    intro v57 T57 L57 X57 q57
    obtain ⟨rfl, Nq57, K57, o57_0, o57_1, o57_2⟩ := q57
    have N58 := Fr.app N51 Nq57
    have f59 := f54.keep K57 (ninS ne53 nin0)
    have f60 := A52.keep K57
    have zz57 : n0 ≤ T57.heap.size := Nat.le_trans zz52 K57.1
    show Goes p e below s _ _ _ (T57.setTop (mkF m 46 #[.val (.int p0), .val (.int p1), .val (.int p2), .val (.int p3), .val (.int p4), .val (.ref b42), .val (.int (1 : Int32)), .unset, .unset, .unset, .unset] [(.ref b52)]))
    refine o_astore X57 hx (hb hby at_46) rfl (Ls' := #[.val (.int p0), .val (.int p1), .val (.int p2), .val (.int p3), .val (.int p4), .val (.ref b42), .val (.int (1 : Int32)), .val (.ref b52), .unset, .unset, .unset]) rfl (n := 48) rfl ?_
    refine o_aload X57 hx (hb hby at_48) (v := (.ref b52)) rfl rfl (n := 50) rfl ?_
    refine o_callV X57 hx hZ hown (hw _ (List.mem_of_getElem? (i := 14) rfl)) (hw _ (List.mem_of_getElem? (i := 15) rfl)) (hw _ (List.mem_of_getElem? (i := 17) rfl)) (hw _ (List.mem_of_getElem? (i := 16) rfl)) (hw _ (List.mem_of_getElem? (i := 3) rfl)) (hw _ (List.mem_of_getElem? (i := 18) rfl)) (by decide) (rfl : T57.heap = T57.heap) o57_0 (argsL := []) (rest := []) (c_read_1 l Z a0 hw b52 b42 k42 p0.toInt8.toInt32 p1.toInt8.toInt32 p2.toInt8.toInt32 p3.toInt8.toInt32 T57.heap n0 zz57 gg52 o57_0 o57_1 o57_2 f59 ne53 (o_nar8 _)) 0 (by decide) (by decide) (by decide) (by decide) (by rw [hml]; rfl) (lenOf o_pd1 rfl) rfl (Nat.le_of_eq rfl) (hb hby at_50) (n := 53) rfl ?_
    intro v63 T63 L63 X63 q63
    obtain ⟨rfl, Nq63, K63, o63_0, o63_1, o63_2⟩ := q63
    have N64 := Fr.app N58 Nq63
    have f65 := f59.keep K63 (ninS ne53 nin0)
    have f66 := o57_0.keep K63
    have zz63 : n0 ≤ T63.heap.size := Nat.le_trans zz57 K63.1
    show Goes p e below s _ _ _ (T63.setTop (mkF m 53 #[.val (.int p0), .val (.int p1), .val (.int p2), .val (.int p3), .val (.int p4), .val (.ref b42), .val (.int (1 : Int32)), .val (.ref b52), .unset, .unset, .unset] [(.int p1.toInt8.toInt32)]))
    refine o_istore X63 hx (hb hby at_53) (Ls' := #[.val (.int p0), .val (.int p1), .val (.int p2), .val (.int p3), .val (.int p4), .val (.ref b42), .val (.int (1 : Int32)), .val (.ref b52), .val (.int p1.toInt8.toInt32), .unset, .unset]) rfl (n := 55) rfl ?_
    refine o_iload X63 hx (hb hby at_55) (v := p1.toInt8.toInt32) rfl (n := 57) rfl ?_
    refine o_iloadN X63 hx (hb hby at_57) (v := p0) rfl (n := 58) rfl ?_
    refine o_iloadN X63 hx (hb hby at_58) (v := p1) rfl (n := 59) rfl ?_
    refine o_iloadN X63 hx (hb hby at_59) (v := p2) rfl (n := 60) rfl ?_
    refine o_iloadN X63 hx (hb hby at_60) (v := p3) rfl (n := 61) rfl ?_
    refine o_iload X63 hx (hb hby at_61) (v := (1 : Int32)) rfl (n := 63) rfl ?_
    refine o_callS X63 hx hZ hown (hw _ (List.mem_of_getElem? (i := 19) rfl)) (hw _ (List.mem_of_getElem? (i := 20) rfl)) (hw _ (List.mem_of_getElem? (i := 21) rfl)) (hw _ (List.mem_of_getElem? (i := 22) rfl)) (by decide) (rfl : T63.heap = T63.heap) (argsL := [(.int p0), (.int p1), (.int p2), (.int p3), (.int (1 : Int32))]) (rest := [(.int p1.toInt8.toInt32)]) (c_pick_1 l Z a0 hw p0 p1 p2 p3 T63.heap) 1 (by decide) (by decide) (by decide) (by decide) (by rw [hml]; rfl) (lenOf o_pd2 rfl) rfl (Nat.le_of_eq rfl) (hb hby at_63) (n := 66) rfl ?_
    intro v69 T69 L69 X69 q69
    obtain ⟨rfl, e69, rfl⟩ := q69
    have N70 := Fr.app N64 (Fr.nil n0)
    show Goes p e below s _ _ _ (T69.setTop (mkF m 66 #[.val (.int p0), .val (.int p1), .val (.int p2), .val (.int p3), .val (.int p4), .val (.ref b42), .val (.int (1 : Int32)), .val (.ref b52), .val (.int p1.toInt8.toInt32), .unset, .unset] [(.int p1.toInt8.toInt32), (.int p1.toInt8.toInt32)]))
    refine o_icmpN X69 hx (hb hby at_66) (XT.ii_ne_f rfl) (n := 69) rfl ?_
    refine o_aload X69 hx (hb hby at_69) (v := (.ref b52)) rfl rfl (n := 71) rfl ?_
    refine o_callV X69 hx hZ hown (hw _ (List.mem_of_getElem? (i := 23) rfl)) (hw _ (List.mem_of_getElem? (i := 24) rfl)) (hw _ (List.mem_of_getElem? (i := 26) rfl)) (hw _ (List.mem_of_getElem? (i := 25) rfl)) (hw _ (List.mem_of_getElem? (i := 3) rfl)) (hw _ (List.mem_of_getElem? (i := 27) rfl)) (by decide) e69 o63_0 (argsL := []) (rest := []) (c_pos l Z a0 hw b52 (2 : Int32) T63.heap o63_2) 0 (by decide) (by decide) (by decide) (by decide) (by rw [hml]; rfl) (lenOf o_pd3 rfl) rfl (Nat.le_of_eq rfl) (hb hby at_71) (n := 74) rfl ?_
    intro v71 T71 L71 X71 q71
    obtain ⟨rfl, e71, rfl⟩ := q71
    have N72 := Fr.app N70 (Fr.nil n0)
    show Goes p e below s _ _ _ (T71.setTop (mkF m 74 #[.val (.int p0), .val (.int p1), .val (.int p2), .val (.int p3), .val (.int p4), .val (.ref b42), .val (.int (1 : Int32)), .val (.ref b52), .val (.int p1.toInt8.toInt32), .unset, .unset] [(.int (2 : Int32))]))
    refine o_iload X71 hx (hb hby at_74) (v := (1 : Int32)) rfl (n := 76) rfl ?_
    refine o_iconst X71 hx (hb hby at_76) (v := (1 : Int32)) rfl (n := 77) rfl ?_
    refine o_iadd X71 hx (hb hby at_77) (v := (2 : Int32)) (by decide) (n := 78) rfl ?_
    refine o_icmpN X71 hx (hb hby at_78) (XT.ii_ne_f (by decide)) (n := 81) rfl ?_
    refine o_iconst X71 hx (hb hby at_81) (v := (1 : Int32)) rfl (n := 82) rfl ?_
    refine o_goto X71 hx (hb hby at_82) (by decide) (n := 86) (by decide) ?_
    refine o_istore X71 hx (hb hby at_86) (Ls' := #[.val (.int p0), .val (.int p1), .val (.int p2), .val (.int p3), .val (.int p4), .val (.ref b42), .val (.int (1 : Int32)), .val (.ref b52), .val (.int p1.toInt8.toInt32), .val (.int (1 : Int32)), .unset]) rfl (n := 88) rfl ?_
    refine o_iload X71 hx (hb hby at_88) (v := (1 : Int32)) rfl (n := 90) rfl ?_
    refine o_iconst X71 hx (hb hby at_90) (v := (3 : Int32)) rfl (n := 91) rfl ?_
    refine o_icmpN X71 hx (hb hby at_91) (XT.ii_ge_f (by decide)) (n := 94) rfl ?_
    refine o_aload X71 hx (hb hby at_94) (v := (.ref b52)) rfl rfl (n := 96) rfl ?_
    refine o_callV X71 hx hZ hown (hw _ (List.mem_of_getElem? (i := 14) rfl)) (hw _ (List.mem_of_getElem? (i := 15) rfl)) (hw _ (List.mem_of_getElem? (i := 17) rfl)) (hw _ (List.mem_of_getElem? (i := 16) rfl)) (hw _ (List.mem_of_getElem? (i := 3) rfl)) (hw _ (List.mem_of_getElem? (i := 18) rfl)) (by decide) e71 o63_0 (argsL := []) (rest := []) (c_read_2 l Z a0 hw b52 b42 k42 p0.toInt8.toInt32 p1.toInt8.toInt32 p2.toInt8.toInt32 p3.toInt8.toInt32 T63.heap n0 zz63 gg52 o63_0 o63_1 o63_2 f65 ne53 (o_nar8 _)) 0 (by decide) (by decide) (by decide) (by decide) (by rw [hml]; rfl) (lenOf o_pd1 rfl) rfl (Nat.le_of_eq rfl) (hb hby at_96) (n := 99) rfl ?_
    intro v73 T73 L73 X73 q73
    obtain ⟨rfl, Nq73, K73, o73_0, o73_1, o73_2⟩ := q73
    have N74 := Fr.app N72 Nq73
    have f75 := f65.keep K73 (ninS ne53 nin0)
    have f76 := o63_0.keep K73
    have zz73 : n0 ≤ T73.heap.size := Nat.le_trans zz63 K73.1
    show Goes p e below s _ _ _ (T73.setTop (mkF m 99 #[.val (.int p0), .val (.int p1), .val (.int p2), .val (.int p3), .val (.int p4), .val (.ref b42), .val (.int (1 : Int32)), .val (.ref b52), .val (.int p1.toInt8.toInt32), .val (.int (1 : Int32)), .unset] [(.int p2.toInt8.toInt32)]))
    refine o_istore X73 hx (hb hby at_99) (Ls' := #[.val (.int p0), .val (.int p1), .val (.int p2), .val (.int p3), .val (.int p4), .val (.ref b42), .val (.int (1 : Int32)), .val (.ref b52), .val (.int p1.toInt8.toInt32), .val (.int (1 : Int32)), .val (.int p2.toInt8.toInt32)]) rfl (n := 101) rfl ?_
    refine o_iload X73 hx (hb hby at_101) (v := (1 : Int32)) rfl (n := 103) rfl ?_
    refine o_ifN X73 hx (hb hby at_103) (XT.i0_eq_f (by decide)) (n := 106) rfl ?_
    refine o_iload X73 hx (hb hby at_106) (v := p2.toInt8.toInt32) rfl (n := 108) rfl ?_
    refine o_iloadN X73 hx (hb hby at_108) (v := p0) rfl (n := 109) rfl ?_
    refine o_iloadN X73 hx (hb hby at_109) (v := p1) rfl (n := 110) rfl ?_
    refine o_iloadN X73 hx (hb hby at_110) (v := p2) rfl (n := 111) rfl ?_
    refine o_iloadN X73 hx (hb hby at_111) (v := p3) rfl (n := 112) rfl ?_
    refine o_iload X73 hx (hb hby at_112) (v := (1 : Int32)) rfl (n := 114) rfl ?_
    refine o_iconst X73 hx (hb hby at_114) (v := (1 : Int32)) rfl (n := 115) rfl ?_
    refine o_iadd X73 hx (hb hby at_115) (v := (2 : Int32)) (by decide) (n := 116) rfl ?_
    refine o_callS X73 hx hZ hown (hw _ (List.mem_of_getElem? (i := 19) rfl)) (hw _ (List.mem_of_getElem? (i := 20) rfl)) (hw _ (List.mem_of_getElem? (i := 21) rfl)) (hw _ (List.mem_of_getElem? (i := 22) rfl)) (by decide) (rfl : T73.heap = T73.heap) (argsL := [(.int p0), (.int p1), (.int p2), (.int p3), (.int (2 : Int32))]) (rest := [(.int p2.toInt8.toInt32)]) (c_pick_2 l Z a0 hw p0 p1 p2 p3 T73.heap) 1 (by decide) (by decide) (by decide) (by decide) (by rw [hml]; rfl) (lenOf o_pd2 rfl) rfl (Nat.le_of_eq rfl) (hb hby at_116) (n := 119) rfl ?_
    intro v79 T79 L79 X79 q79
    obtain ⟨rfl, e79, rfl⟩ := q79
    have N80 := Fr.app N74 (Fr.nil n0)
    show Goes p e below s _ _ _ (T79.setTop (mkF m 119 #[.val (.int p0), .val (.int p1), .val (.int p2), .val (.int p3), .val (.int p4), .val (.ref b42), .val (.int (1 : Int32)), .val (.ref b52), .val (.int p1.toInt8.toInt32), .val (.int (1 : Int32)), .val (.int p2.toInt8.toInt32)] [(.int p2.toInt8.toInt32), (.int p2.toInt8.toInt32)]))
    refine o_icmpN X79 hx (hb hby at_119) (XT.ii_ne_f rfl) (n := 122) rfl ?_
    refine o_aload X79 hx (hb hby at_122) (v := (.ref b52)) rfl rfl (n := 124) rfl ?_
    refine o_callV X79 hx hZ hown (hw _ (List.mem_of_getElem? (i := 23) rfl)) (hw _ (List.mem_of_getElem? (i := 24) rfl)) (hw _ (List.mem_of_getElem? (i := 26) rfl)) (hw _ (List.mem_of_getElem? (i := 25) rfl)) (hw _ (List.mem_of_getElem? (i := 3) rfl)) (hw _ (List.mem_of_getElem? (i := 27) rfl)) (by decide) e79 o73_0 (argsL := []) (rest := []) (c_pos l Z a0 hw b52 (3 : Int32) T73.heap o73_2) 0 (by decide) (by decide) (by decide) (by decide) (by rw [hml]; rfl) (lenOf o_pd3 rfl) rfl (Nat.le_of_eq rfl) (hb hby at_124) (n := 127) rfl ?_
    intro v81 T81 L81 X81 q81
    obtain ⟨rfl, e81, rfl⟩ := q81
    have N82 := Fr.app N80 (Fr.nil n0)
    show Goes p e below s _ _ _ (T81.setTop (mkF m 127 #[.val (.int p0), .val (.int p1), .val (.int p2), .val (.int p3), .val (.int p4), .val (.ref b42), .val (.int (1 : Int32)), .val (.ref b52), .val (.int p1.toInt8.toInt32), .val (.int (1 : Int32)), .val (.int p2.toInt8.toInt32)] [(.int (3 : Int32))]))
    refine o_iload X81 hx (hb hby at_127) (v := (1 : Int32)) rfl (n := 129) rfl ?_
    refine o_iconst X81 hx (hb hby at_129) (v := (2 : Int32)) rfl (n := 130) rfl ?_
    refine o_iadd X81 hx (hb hby at_130) (v := (3 : Int32)) (by decide) (n := 131) rfl ?_
    refine o_icmpN X81 hx (hb hby at_131) (XT.ii_ne_f (by decide)) (n := 134) rfl ?_
    refine o_iconst X81 hx (hb hby at_134) (v := (1 : Int32)) rfl (n := 135) rfl ?_
    refine o_goto X81 hx (hb hby at_135) (by decide) (n := 139) (by decide) ?_
    refine o_istore X81 hx (hb hby at_139) (Ls' := #[.val (.int p0), .val (.int p1), .val (.int p2), .val (.int p3), .val (.int p4), .val (.ref b42), .val (.int (1 : Int32)), .val (.ref b52), .val (.int p1.toInt8.toInt32), .val (.int (1 : Int32)), .val (.int p2.toInt8.toInt32)]) rfl (n := 141) rfl ?_
    refine o_iload X81 hx (hb hby at_141) (v := (1 : Int32)) rfl (n := 143) rfl ?_
    refine o_ifN X81 hx (hb hby at_143) (XT.i0_eq_f (by decide)) (n := 146) rfl ?_
    refine o_aload X81 hx (hb hby at_146) (v := (.ref b42)) rfl rfl (n := 148) rfl ?_
    refine o_iconst X81 hx (hb hby at_148) (v := (0 : Int32)) rfl (n := 149) rfl ?_
    refine o_baload X81 hx hZ e81 f75 (0) (by decide) (by decide) (v := (.int p0.toInt8.toInt32)) rfl (hb hby at_149) (n := 150) rfl ?_
    refine o_iloadN X81 hx (hb hby at_150) (v := p0) rfl (n := 151) rfl ?_
    refine o_i2b X81 hx (hb hby at_151) (v := p0.toInt8.toInt32) rfl (n := 152) rfl ?_
    refine o_icmpN X81 hx (hb hby at_152) (XT.ii_ne_f rfl) (n := 155) rfl ?_
    refine o_aload X81 hx (hb hby at_155) (v := (.ref b42)) rfl rfl (n := 157) rfl ?_
    refine o_iconst X81 hx (hb hby at_157) (v := (1 : Int32)) rfl (n := 158) rfl ?_
    refine o_baload X81 hx hZ e81 f75 (1) (by decide) (by decide) (v := (.int p1.toInt8.toInt32)) rfl (hb hby at_158) (n := 159) rfl ?_
    refine o_iloadN X81 hx (hb hby at_159) (v := p1) rfl (n := 160) rfl ?_
    refine o_i2b X81 hx (hb hby at_160) (v := p1.toInt8.toInt32) rfl (n := 161) rfl ?_
    refine o_icmpN X81 hx (hb hby at_161) (XT.ii_ne_f rfl) (n := 164) rfl ?_
    refine o_aload X81 hx (hb hby at_164) (v := (.ref b42)) rfl rfl (n := 166) rfl ?_
    refine o_iconst X81 hx (hb hby at_166) (v := (2 : Int32)) rfl (n := 167) rfl ?_
    refine o_baload X81 hx hZ e81 f75 (2) (by decide) (by decide) (v := (.int p2.toInt8.toInt32)) rfl (hb hby at_167) (n := 168) rfl ?_
    refine o_iloadN X81 hx (hb hby at_168) (v := p2) rfl (n := 169) rfl ?_
    refine o_i2b X81 hx (hb hby at_169) (v := p2.toInt8.toInt32) rfl (n := 170) rfl ?_
    refine o_icmpN X81 hx (hb hby at_170) (XT.ii_ne_f rfl) (n := 173) rfl ?_
    refine o_aload X81 hx (hb hby at_173) (v := (.ref b42)) rfl rfl (n := 175) rfl ?_
    refine o_iconst X81 hx (hb hby at_175) (v := (3 : Int32)) rfl (n := 176) rfl ?_
    refine o_baload X81 hx hZ e81 f75 (3) (by decide) (by decide) (v := (.int p3.toInt8.toInt32)) rfl (hb hby at_176) (n := 177) rfl ?_
    refine o_iloadN X81 hx (hb hby at_177) (v := p3) rfl (n := 178) rfl ?_
    refine o_i2b X81 hx (hb hby at_178) (v := p3.toInt8.toInt32) rfl (n := 179) rfl ?_
    refine o_icmpN X81 hx (hb hby at_179) (XT.ii_ne_f rfl) (n := 182) rfl ?_
    refine o_iconst X81 hx (hb hby at_182) (v := (1 : Int32)) rfl (n := 183) rfl ?_
    refine o_goto X81 hx (hb hby at_183) (by decide) (n := 187) (by decide) ?_
    refine o_istore X81 hx (hb hby at_187) (Ls' := #[.val (.int p0), .val (.int p1), .val (.int p2), .val (.int p3), .val (.int p4), .val (.ref b42), .val (.int (1 : Int32)), .val (.ref b52), .val (.int p1.toInt8.toInt32), .val (.int (1 : Int32)), .val (.int p2.toInt8.toInt32)]) rfl (n := 189) rfl ?_
    refine o_iload X81 hx (hb hby at_189) (v := (1 : Int32)) rfl (n := 191) rfl ?_
    exact o_nreturn X81 hx hret hlk (t := .boolean) (by simp) (hb hby at_191) (by decide) (by decide) e81 ⟨rfl, N82⟩
  · refine o_iconst X0 hx (hb hby at_0) (v := (4 : Int32)) rfl (n := 1) rfl ?_
    refine o_newarray X0 hx hZ (aty := .byte) (hw _ (List.mem_of_getElem? (i := 0) rfl)) e0 (hb hby at_1) (by decide) 4 (by decide) (by decide) (by decide) (by decide) (n := 3) rfl ?_
    intro T83 h83 b83 k83 X83 e83 g83 E83 V83
    have gg83 : n0 ≤ b83 := Nat.le_trans Z0 (Nat.le_of_eq g83.symm)
    have zz83 : n0 ≤ h83.size := Nat.le_trans Z0 E83.1
    have f84 : Arv Z h83 b83 k83 .byte (4 : Int32) [(.int (0 : Int32)), (.int (0 : Int32)), (.int (0 : Int32)), (.int (0 : Int32))] (.int (0 : Int32)) := V83.pad (pad_rep [] (.int (0 : Int32)) 4)
    refine o_astore X83 hx (hb hby at_3) rfl (Ls' := #[.val (.int p0), .val (.int p1), .val (.int p2), .val (.int p3), .val (.int p4), .val (.ref b83), .unset, .unset, .unset, .unset, .unset]) rfl (n := 5) rfl ?_
    refine o_aload X83 hx (hb hby at_5) (v := (.ref b83)) rfl rfl (n := 7) rfl ?_
    refine o_iconst X83 hx (hb hby at_7) (v := (0 : Int32)) rfl (n := 8) rfl ?_
    refine o_iloadN X83 hx (hb hby at_8) (v := p0) rfl (n := 9) rfl ?_
    refine o_i2b X83 hx (hb hby at_9) (v := p0.toInt8.toInt32) rfl (n := 10) rfl ?_
    refine o_bastore X83 hx hZ e83 f84 (0) (by decide) (by decide) (Nat.le_of_ble_eq_true rfl) (w := (.int p0.toInt8.toInt32)) (congrArg Value.int (o_nar8 _)) (vs' := [(.int p0.toInt8.toInt32), (.int (0 : Int32)), (.int (0 : Int32)), (.int (0 : Int32))]) rfl (hb hby at_10) (n := 11) rfl ?_
    intro T85 h85 X85 e85 W85 V85
    have zz85 : n0 ≤ h85.size := Nat.le_trans zz83 (Nat.le_of_eq W85.size.symm)
    have N86 := Fr.snoc X85 N0 gg83
    refine o_aload X85 hx (hb hby at_11) (v := (.ref b83)) rfl rfl (n := 13) rfl ?_
    refine o_iconst X85 hx (hb hby at_13) (v := (1 : Int32)) rfl (n := 14) rfl ?_
    refine o_iloadN X85 hx (hb hby at_14) (v := p1) rfl (n := 15) rfl ?_
    refine o_i2b X85 hx (hb hby at_15) (v := p1.toInt8.toInt32) rfl (n := 16) rfl ?_
    refine o_bastore X85 hx hZ e85 V85 (1) (by decide) (by decide) (Nat.le_of_ble_eq_true rfl) (w := (.int p1.toInt8.toInt32)) (congrArg Value.int (o_nar8 _)) (vs' := [(.int p0.toInt8.toInt32), (.int p1.toInt8.toInt32), (.int (0 : Int32)), (.int (0 : Int32))]) rfl (hb hby at_16) (n := 17) rfl ?_
    intro T87 h87 X87 e87 W87 V87
    have zz87 : n0 ≤ h87.size := Nat.le_trans zz85 (Nat.le_of_eq W87.size.symm)
    have N88 := Fr.snoc X87 N86 gg83
    refine o_aload X87 hx (hb hby at_17) (v := (.ref b83)) rfl rfl (n := 19) rfl ?_
    refine o_iconst X87 hx (hb hby at_19) (v := (2 : Int32)) rfl (n := 20) rfl ?_
    refine o_iloadN X87 hx (hb hby at_20) (v := p2) rfl (n := 21) rfl ?_
    refine o_i2b X87 hx (hb hby at_21) (v := p2.toInt8.toInt32) rfl (n := 22) rfl ?_
    refine o_bastore X87 hx hZ e87 V87 (2) (by decide) (by decide) (Nat.le_of_ble_eq_true rfl) (w := (.int p2.toInt8.toInt32)) (congrArg Value.int (o_nar8 _)) (vs' := [(.int p0.toInt8.toInt32), (.int p1.toInt8.toInt32), (.int p2.toInt8.toInt32), (.int (0 : Int32))]) rfl (hb hby at_22) (n := 23) rfl ?_
    intro T89 h89 X89 e89 W89 V89
    have zz89 : n0 ≤ h89.size := Nat.le_trans zz87 (Nat.le_of_eq W89.size.symm)
    have N90 := Fr.snoc X89 N88 gg83
    refine o_aload X89 hx (hb hby at_23) (v := (.ref b83)) rfl rfl (n := 25) rfl ?_
    refine o_iconst X89 hx (hb hby at_25) (v := (3 : Int32)) rfl (n := 26) rfl ?_
    refine o_iloadN X89 hx (hb hby at_26) (v := p3) rfl (n := 27) rfl ?_
    refine o_i2b X89 hx (hb hby at_27) (v := p3.toInt8.toInt32) rfl (n := 28) rfl ?_
    refine o_bastore X89 hx hZ e89 V89 (3) (by decide) (by decide) (Nat.le_of_ble_eq_true rfl) (w := (.int p3.toInt8.toInt32)) (congrArg Value.int (o_nar8 _)) (vs' := [(.int p0.toInt8.toInt32), (.int p1.toInt8.toInt32), (.int p2.toInt8.toInt32), (.int p3.toInt8.toInt32)]) rfl (hb hby at_28) (n := 29) rfl ?_
    intro T91 h91 X91 e91 W91 V91
    have zz91 : n0 ≤ h91.size := Nat.le_trans zz89 (Nat.le_of_eq W91.size.symm)
    have N92 := Fr.snoc X91 N90 gg83
    refine o_iload X91 hx (hb hby at_29) (v := p4) rfl (n := 31) rfl ?_
    refine o_iconst X91 hx (hb hby at_31) (v := (3 : Int32)) rfl (n := 32) rfl ?_
    refine o_iand X91 hx (hb hby at_32) (v := (2 : Int32)) q (n := 33) rfl ?_
    refine o_istore X91 hx (hb hby at_33) (Ls' := #[.val (.int p0), .val (.int p1), .val (.int p2), .val (.int p3), .val (.int p4), .val (.ref b83), .val (.int (2 : Int32)), .unset, .unset, .unset, .unset]) rfl (n := 35) rfl ?_
    refine o_new X91 hx hZ hown (hw _ (List.mem_of_getElem? (i := 1) rfl)) (hw _ (List.mem_of_getElem? (i := 2) rfl)) (hw _ (List.mem_of_getElem? (i := 3) rfl)) e91 (hb hby at_35) (by decide) (by decide) (n := 38) rfl ?_
    intro T93 h93 b93 X93 e93 g93 E93 A93 D93
    have ne94 : b83 ≠ b93 := Nat.ne_of_lt (Nat.lt_of_lt_of_eq V91.lt g93.symm)
    have gg93 : n0 ≤ b93 := Nat.le_trans zz91 (Nat.le_of_eq g93.symm)
    have zz93 : n0 ≤ h93.size := Nat.le_trans zz91 E93.1
    have f95 := V91.ext E93
    have f96 : Fld Z h93 b93 "com/example/estim365/estim365/formats/BytesIn" "bytes" "[B" .null := D93 (Or.inr (hw _ (List.mem_of_getElem? (i := 11) rfl))) (ty := (.array .byte)) (by decide)
    have f97 : Fld Z h93 b93 "com/example/estim365/estim365/formats/BytesIn" "position" "I" (.int (0 : Int32)) := D93 (Or.inl (hw _ (List.mem_of_getElem? (i := 13) rfl))) (ty := .int) (by decide)
    refine o_dup X93 hx (hb hby at_38) rfl (n := 39) rfl ?_
    refine o_aload X93 hx (hb hby at_39) (v := (.ref b83)) rfl rfl (n := 41) rfl ?_
    refine o_iload X93 hx (hb hby at_41) (v := (2 : Int32)) rfl (n := 43) rfl ?_
    refine o_callN X93 hx hZ rfl hown (hw _ (List.mem_of_getElem? (i := 4) rfl)) (hw _ (List.mem_of_getElem? (i := 5) rfl)) (hw _ (List.mem_of_getElem? (i := 3) rfl)) (hw _ (List.mem_of_getElem? (i := 6) rfl)) (by decide) e93 (a := b93) (argsL := [(.ref b83), (.int (2 : Int32))]) (rest := [(.ref b93)]) (c_init l Z a0 hw b93 b83 (2 : Int32) h93 n0 zz93 gg93 A93 f96 f97) 1 (by decide) (by decide) (by decide) (by decide) (by rw [hml]; rfl) (lenOf o_pd0 rfl) rfl (Nat.le_of_eq rfl) (hb hby at_43) (n := 46) rfl ?_
    intro v98 T98 L98 X98 q98
    obtain ⟨rfl, Nq98, K98, o98_0, o98_1, o98_2⟩ := q98
    have N99 := Fr.app N92 Nq98
    have f100 := f95.keep K98 (ninS ne94 nin0)
    have f101 := A93.keep K98
    have zz98 : n0 ≤ T98.heap.size := Nat.le_trans zz93 K98.1
    show Goes p e below s _ _ _ (T98.setTop (mkF m 46 #[.val (.int p0), .val (.int p1), .val (.int p2), .val (.int p3), .val (.int p4), .val (.ref b83), .val (.int (2 : Int32)), .unset, .unset, .unset, .unset] [(.ref b93)]))
    refine o_astore X98 hx (hb hby at_46) rfl (Ls' := #[.val (.int p0), .val (.int p1), .val (.int p2), .val (.int p3), .val (.int p4), .val (.ref b83), .val (.int (2 : Int32)), .val (.ref b93), .unset, .unset, .unset]) rfl (n := 48) rfl ?_
    refine o_aload X98 hx (hb hby at_48) (v := (.ref b93)) rfl rfl (n := 50) rfl ?_
    refine o_callV X98 hx hZ hown (hw _ (List.mem_of_getElem? (i := 14) rfl)) (hw _ (List.mem_of_getElem? (i := 15) rfl)) (hw _ (List.mem_of_getElem? (i := 17) rfl)) (hw _ (List.mem_of_getElem? (i := 16) rfl)) (hw _ (List.mem_of_getElem? (i := 3) rfl)) (hw _ (List.mem_of_getElem? (i := 18) rfl)) (by decide) (rfl : T98.heap = T98.heap) o98_0 (argsL := []) (rest := []) (c_read_2 l Z a0 hw b93 b83 k83 p0.toInt8.toInt32 p1.toInt8.toInt32 p2.toInt8.toInt32 p3.toInt8.toInt32 T98.heap n0 zz98 gg93 o98_0 o98_1 o98_2 f100 ne94 (o_nar8 _)) 0 (by decide) (by decide) (by decide) (by decide) (by rw [hml]; rfl) (lenOf o_pd1 rfl) rfl (Nat.le_of_eq rfl) (hb hby at_50) (n := 53) rfl ?_
    intro v104 T104 L104 X104 q104
    obtain ⟨rfl, Nq104, K104, o104_0, o104_1, o104_2⟩ := q104
    have N105 := Fr.app N99 Nq104
    have f106 := f100.keep K104 (ninS ne94 nin0)
    have f107 := o98_0.keep K104
    have zz104 : n0 ≤ T104.heap.size := Nat.le_trans zz98 K104.1
    show Goes p e below s _ _ _ (T104.setTop (mkF m 53 #[.val (.int p0), .val (.int p1), .val (.int p2), .val (.int p3), .val (.int p4), .val (.ref b83), .val (.int (2 : Int32)), .val (.ref b93), .unset, .unset, .unset] [(.int p2.toInt8.toInt32)]))
    refine o_istore X104 hx (hb hby at_53) (Ls' := #[.val (.int p0), .val (.int p1), .val (.int p2), .val (.int p3), .val (.int p4), .val (.ref b83), .val (.int (2 : Int32)), .val (.ref b93), .val (.int p2.toInt8.toInt32), .unset, .unset]) rfl (n := 55) rfl ?_
    refine o_iload X104 hx (hb hby at_55) (v := p2.toInt8.toInt32) rfl (n := 57) rfl ?_
    refine o_iloadN X104 hx (hb hby at_57) (v := p0) rfl (n := 58) rfl ?_
    refine o_iloadN X104 hx (hb hby at_58) (v := p1) rfl (n := 59) rfl ?_
    refine o_iloadN X104 hx (hb hby at_59) (v := p2) rfl (n := 60) rfl ?_
    refine o_iloadN X104 hx (hb hby at_60) (v := p3) rfl (n := 61) rfl ?_
    refine o_iload X104 hx (hb hby at_61) (v := (2 : Int32)) rfl (n := 63) rfl ?_
    refine o_callS X104 hx hZ hown (hw _ (List.mem_of_getElem? (i := 19) rfl)) (hw _ (List.mem_of_getElem? (i := 20) rfl)) (hw _ (List.mem_of_getElem? (i := 21) rfl)) (hw _ (List.mem_of_getElem? (i := 22) rfl)) (by decide) (rfl : T104.heap = T104.heap) (argsL := [(.int p0), (.int p1), (.int p2), (.int p3), (.int (2 : Int32))]) (rest := [(.int p2.toInt8.toInt32)]) (c_pick_2 l Z a0 hw p0 p1 p2 p3 T104.heap) 1 (by decide) (by decide) (by decide) (by decide) (by rw [hml]; rfl) (lenOf o_pd2 rfl) rfl (Nat.le_of_eq rfl) (hb hby at_63) (n := 66) rfl ?_
    intro v110 T110 L110 X110 q110
    obtain ⟨rfl, e110, rfl⟩ := q110
    have N111 := Fr.app N105 (Fr.nil n0)
    show Goes p e below s _ _ _ (T110.setTop (mkF m 66 #[.val (.int p0), .val (.int p1), .val (.int p2), .val (.int p3), .val (.int p4), .val (.ref b83), .val (.int (2 : Int32)), .val (.ref b93), .val (.int p2.toInt8.toInt32), .unset, .unset] [(.int p2.toInt8.toInt32), (.int p2.toInt8.toInt32)]))
    refine o_icmpN X110 hx (hb hby at_66) (XT.ii_ne_f rfl) (n := 69) rfl ?_
    refine o_aload X110 hx (hb hby at_69) (v := (.ref b93)) rfl rfl (n := 71) rfl ?_
    refine o_callV X110 hx hZ hown (hw _ (List.mem_of_getElem? (i := 23) rfl)) (hw _ (List.mem_of_getElem? (i := 24) rfl)) (hw _ (List.mem_of_getElem? (i := 26) rfl)) (hw _ (List.mem_of_getElem? (i := 25) rfl)) (hw _ (List.mem_of_getElem? (i := 3) rfl)) (hw _ (List.mem_of_getElem? (i := 27) rfl)) (by decide) e110 o104_0 (argsL := []) (rest := []) (c_pos l Z a0 hw b93 (3 : Int32) T104.heap o104_2) 0 (by decide) (by decide) (by decide) (by decide) (by rw [hml]; rfl) (lenOf o_pd3 rfl) rfl (Nat.le_of_eq rfl) (hb hby at_71) (n := 74) rfl ?_
    intro v112 T112 L112 X112 q112
    obtain ⟨rfl, e112, rfl⟩ := q112
    have N113 := Fr.app N111 (Fr.nil n0)
    show Goes p e below s _ _ _ (T112.setTop (mkF m 74 #[.val (.int p0), .val (.int p1), .val (.int p2), .val (.int p3), .val (.int p4), .val (.ref b83), .val (.int (2 : Int32)), .val (.ref b93), .val (.int p2.toInt8.toInt32), .unset, .unset] [(.int (3 : Int32))]))
    refine o_iload X112 hx (hb hby at_74) (v := (2 : Int32)) rfl (n := 76) rfl ?_
    refine o_iconst X112 hx (hb hby at_76) (v := (1 : Int32)) rfl (n := 77) rfl ?_
    refine o_iadd X112 hx (hb hby at_77) (v := (3 : Int32)) (by decide) (n := 78) rfl ?_
    refine o_icmpN X112 hx (hb hby at_78) (XT.ii_ne_f (by decide)) (n := 81) rfl ?_
    refine o_iconst X112 hx (hb hby at_81) (v := (1 : Int32)) rfl (n := 82) rfl ?_
    refine o_goto X112 hx (hb hby at_82) (by decide) (n := 86) (by decide) ?_
    refine o_istore X112 hx (hb hby at_86) (Ls' := #[.val (.int p0), .val (.int p1), .val (.int p2), .val (.int p3), .val (.int p4), .val (.ref b83), .val (.int (2 : Int32)), .val (.ref b93), .val (.int p2.toInt8.toInt32), .val (.int (1 : Int32)), .unset]) rfl (n := 88) rfl ?_
    refine o_iload X112 hx (hb hby at_88) (v := (2 : Int32)) rfl (n := 90) rfl ?_
    refine o_iconst X112 hx (hb hby at_90) (v := (3 : Int32)) rfl (n := 91) rfl ?_
    refine o_icmpN X112 hx (hb hby at_91) (XT.ii_ge_f (by decide)) (n := 94) rfl ?_
    refine o_aload X112 hx (hb hby at_94) (v := (.ref b93)) rfl rfl (n := 96) rfl ?_
    refine o_callV X112 hx hZ hown (hw _ (List.mem_of_getElem? (i := 14) rfl)) (hw _ (List.mem_of_getElem? (i := 15) rfl)) (hw _ (List.mem_of_getElem? (i := 17) rfl)) (hw _ (List.mem_of_getElem? (i := 16) rfl)) (hw _ (List.mem_of_getElem? (i := 3) rfl)) (hw _ (List.mem_of_getElem? (i := 18) rfl)) (by decide) e112 o104_0 (argsL := []) (rest := []) (c_read_3 l Z a0 hw b93 b83 k83 p0.toInt8.toInt32 p1.toInt8.toInt32 p2.toInt8.toInt32 p3.toInt8.toInt32 T104.heap n0 zz104 gg93 o104_0 o104_1 o104_2 f106 ne94 (o_nar8 _)) 0 (by decide) (by decide) (by decide) (by decide) (by rw [hml]; rfl) (lenOf o_pd1 rfl) rfl (Nat.le_of_eq rfl) (hb hby at_96) (n := 99) rfl ?_
    intro v114 T114 L114 X114 q114
    obtain ⟨rfl, Nq114, K114, o114_0, o114_1, o114_2⟩ := q114
    have N115 := Fr.app N113 Nq114
    have f116 := f106.keep K114 (ninS ne94 nin0)
    have f117 := o104_0.keep K114
    have zz114 : n0 ≤ T114.heap.size := Nat.le_trans zz104 K114.1
    show Goes p e below s _ _ _ (T114.setTop (mkF m 99 #[.val (.int p0), .val (.int p1), .val (.int p2), .val (.int p3), .val (.int p4), .val (.ref b83), .val (.int (2 : Int32)), .val (.ref b93), .val (.int p2.toInt8.toInt32), .val (.int (1 : Int32)), .unset] [(.int p3.toInt8.toInt32)]))
    refine o_istore X114 hx (hb hby at_99) (Ls' := #[.val (.int p0), .val (.int p1), .val (.int p2), .val (.int p3), .val (.int p4), .val (.ref b83), .val (.int (2 : Int32)), .val (.ref b93), .val (.int p2.toInt8.toInt32), .val (.int (1 : Int32)), .val (.int p3.toInt8.toInt32)]) rfl (n := 101) rfl ?_
    refine o_iload X114 hx (hb hby at_101) (v := (1 : Int32)) rfl (n := 103) rfl ?_
    refine o_ifN X114 hx (hb hby at_103) (XT.i0_eq_f (by decide)) (n := 106) rfl ?_
    refine o_iload X114 hx (hb hby at_106) (v := p3.toInt8.toInt32) rfl (n := 108) rfl ?_
    refine o_iloadN X114 hx (hb hby at_108) (v := p0) rfl (n := 109) rfl ?_
    refine o_iloadN X114 hx (hb hby at_109) (v := p1) rfl (n := 110) rfl ?_
    refine o_iloadN X114 hx (hb hby at_110) (v := p2) rfl (n := 111) rfl ?_
    refine o_iloadN X114 hx (hb hby at_111) (v := p3) rfl (n := 112) rfl ?_
    refine o_iload X114 hx (hb hby at_112) (v := (2 : Int32)) rfl (n := 114) rfl ?_
    refine o_iconst X114 hx (hb hby at_114) (v := (1 : Int32)) rfl (n := 115) rfl ?_
    refine o_iadd X114 hx (hb hby at_115) (v := (3 : Int32)) (by decide) (n := 116) rfl ?_
    refine o_callS X114 hx hZ hown (hw _ (List.mem_of_getElem? (i := 19) rfl)) (hw _ (List.mem_of_getElem? (i := 20) rfl)) (hw _ (List.mem_of_getElem? (i := 21) rfl)) (hw _ (List.mem_of_getElem? (i := 22) rfl)) (by decide) (rfl : T114.heap = T114.heap) (argsL := [(.int p0), (.int p1), (.int p2), (.int p3), (.int (3 : Int32))]) (rest := [(.int p3.toInt8.toInt32)]) (c_pick_3 l Z a0 hw p0 p1 p2 p3 T114.heap) 1 (by decide) (by decide) (by decide) (by decide) (by rw [hml]; rfl) (lenOf o_pd2 rfl) rfl (Nat.le_of_eq rfl) (hb hby at_116) (n := 119) rfl ?_
    intro v120 T120 L120 X120 q120
    obtain ⟨rfl, e120, rfl⟩ := q120
    have N121 := Fr.app N115 (Fr.nil n0)
    show Goes p e below s _ _ _ (T120.setTop (mkF m 119 #[.val (.int p0), .val (.int p1), .val (.int p2), .val (.int p3), .val (.int p4), .val (.ref b83), .val (.int (2 : Int32)), .val (.ref b93), .val (.int p2.toInt8.toInt32), .val (.int (1 : Int32)), .val (.int p3.toInt8.toInt32)] [(.int p3.toInt8.toInt32), (.int p3.toInt8.toInt32)]))
    refine o_icmpN X120 hx (hb hby at_119) (XT.ii_ne_f rfl) (n := 122) rfl ?_
    refine o_aload X120 hx (hb hby at_122) (v := (.ref b93)) rfl rfl (n := 124) rfl ?_
    refine o_callV X120 hx hZ hown (hw _ (List.mem_of_getElem? (i := 23) rfl)) (hw _ (List.mem_of_getElem? (i := 24) rfl)) (hw _ (List.mem_of_getElem? (i := 26) rfl)) (hw _ (List.mem_of_getElem? (i := 25) rfl)) (hw _ (List.mem_of_getElem? (i := 3) rfl)) (hw _ (List.mem_of_getElem? (i := 27) rfl)) (by decide) e120 o114_0 (argsL := []) (rest := []) (c_pos l Z a0 hw b93 (4 : Int32) T114.heap o114_2) 0 (by decide) (by decide) (by decide) (by decide) (by rw [hml]; rfl) (lenOf o_pd3 rfl) rfl (Nat.le_of_eq rfl) (hb hby at_124) (n := 127) rfl ?_
    intro v122 T122 L122 X122 q122
    obtain ⟨rfl, e122, rfl⟩ := q122
    have N123 := Fr.app N121 (Fr.nil n0)
    show Goes p e below s _ _ _ (T122.setTop (mkF m 127 #[.val (.int p0), .val (.int p1), .val (.int p2), .val (.int p3), .val (.int p4), .val (.ref b83), .val (.int (2 : Int32)), .val (.ref b93), .val (.int p2.toInt8.toInt32), .val (.int (1 : Int32)), .val (.int p3.toInt8.toInt32)] [(.int (4 : Int32))]))
    refine o_iload X122 hx (hb hby at_127) (v := (2 : Int32)) rfl (n := 129) rfl ?_
    refine o_iconst X122 hx (hb hby at_129) (v := (2 : Int32)) rfl (n := 130) rfl ?_
    refine o_iadd X122 hx (hb hby at_130) (v := (4 : Int32)) (by decide) (n := 131) rfl ?_
    refine o_icmpN X122 hx (hb hby at_131) (XT.ii_ne_f (by decide)) (n := 134) rfl ?_
    refine o_iconst X122 hx (hb hby at_134) (v := (1 : Int32)) rfl (n := 135) rfl ?_
    refine o_goto X122 hx (hb hby at_135) (by decide) (n := 139) (by decide) ?_
    refine o_istore X122 hx (hb hby at_139) (Ls' := #[.val (.int p0), .val (.int p1), .val (.int p2), .val (.int p3), .val (.int p4), .val (.ref b83), .val (.int (2 : Int32)), .val (.ref b93), .val (.int p2.toInt8.toInt32), .val (.int (1 : Int32)), .val (.int p3.toInt8.toInt32)]) rfl (n := 141) rfl ?_
    refine o_iload X122 hx (hb hby at_141) (v := (1 : Int32)) rfl (n := 143) rfl ?_
    refine o_ifN X122 hx (hb hby at_143) (XT.i0_eq_f (by decide)) (n := 146) rfl ?_
    refine o_aload X122 hx (hb hby at_146) (v := (.ref b83)) rfl rfl (n := 148) rfl ?_
    refine o_iconst X122 hx (hb hby at_148) (v := (0 : Int32)) rfl (n := 149) rfl ?_
    refine o_baload X122 hx hZ e122 f116 (0) (by decide) (by decide) (v := (.int p0.toInt8.toInt32)) rfl (hb hby at_149) (n := 150) rfl ?_
    refine o_iloadN X122 hx (hb hby at_150) (v := p0) rfl (n := 151) rfl ?_
    refine o_i2b X122 hx (hb hby at_151) (v := p0.toInt8.toInt32) rfl (n := 152) rfl ?_
    refine o_icmpN X122 hx (hb hby at_152) (XT.ii_ne_f rfl) (n := 155) rfl ?_
    refine o_aload X122 hx (hb hby at_155) (v := (.ref b83)) rfl rfl (n := 157) rfl ?_
    refine o_iconst X122 hx (hb hby at_157) (v := (1 : Int32)) rfl (n := 158) rfl ?_
    refine o_baload X122 hx hZ e122 f116 (1) (by decide) (by decide) (v := (.int p1.toInt8.toInt32)) rfl (hb hby at_158) (n := 159) rfl ?_
    refine o_iloadN X122 hx (hb hby at_159) (v := p1) rfl (n := 160) rfl ?_
    refine o_i2b X122 hx (hb hby at_160) (v := p1.toInt8.toInt32) rfl (n := 161) rfl ?_
    refine o_icmpN X122 hx (hb hby at_161) (XT.ii_ne_f rfl) (n := 164) rfl ?_
    refine o_aload X122 hx (hb hby at_164) (v := (.ref b83)) rfl rfl (n := 166) rfl ?_
    refine o_iconst X122 hx (hb hby at_166) (v := (2 : Int32)) rfl (n := 167) rfl ?_
    refine o_baload X122 hx hZ e122 f116 (2) (by decide) (by decide) (v := (.int p2.toInt8.toInt32)) rfl (hb hby at_167) (n := 168) rfl ?_
    refine o_iloadN X122 hx (hb hby at_168) (v := p2) rfl (n := 169) rfl ?_
    refine o_i2b X122 hx (hb hby at_169) (v := p2.toInt8.toInt32) rfl (n := 170) rfl ?_
    refine o_icmpN X122 hx (hb hby at_170) (XT.ii_ne_f rfl) (n := 173) rfl ?_
    refine o_aload X122 hx (hb hby at_173) (v := (.ref b83)) rfl rfl (n := 175) rfl ?_
    refine o_iconst X122 hx (hb hby at_175) (v := (3 : Int32)) rfl (n := 176) rfl ?_
    refine o_baload X122 hx hZ e122 f116 (3) (by decide) (by decide) (v := (.int p3.toInt8.toInt32)) rfl (hb hby at_176) (n := 177) rfl ?_
    refine o_iloadN X122 hx (hb hby at_177) (v := p3) rfl (n := 178) rfl ?_
    refine o_i2b X122 hx (hb hby at_178) (v := p3.toInt8.toInt32) rfl (n := 179) rfl ?_
    refine o_icmpN X122 hx (hb hby at_179) (XT.ii_ne_f rfl) (n := 182) rfl ?_
    refine o_iconst X122 hx (hb hby at_182) (v := (1 : Int32)) rfl (n := 183) rfl ?_
    refine o_goto X122 hx (hb hby at_183) (by decide) (n := 187) (by decide) ?_
    refine o_istore X122 hx (hb hby at_187) (Ls' := #[.val (.int p0), .val (.int p1), .val (.int p2), .val (.int p3), .val (.int p4), .val (.ref b83), .val (.int (2 : Int32)), .val (.ref b93), .val (.int p2.toInt8.toInt32), .val (.int (1 : Int32)), .val (.int p3.toInt8.toInt32)]) rfl (n := 189) rfl ?_
    refine o_iload X122 hx (hb hby at_189) (v := (1 : Int32)) rfl (n := 191) rfl ?_
    exact o_nreturn X122 hx hret hlk (t := .boolean) (by simp) (hb hby at_191) (by decide) (by decide) e122 ⟨rfl, N123⟩
  · refine o_iconst X0 hx (hb hby at_0) (v := (4 : Int32)) rfl (n := 1) rfl ?_
    refine o_newarray X0 hx hZ (aty := .byte) (hw _ (List.mem_of_getElem? (i := 0) rfl)) e0 (hb hby at_1) (by decide) 4 (by decide) (by decide) (by decide) (by decide) (n := 3) rfl ?_
    intro T124 h124 b124 k124 X124 e124 g124 E124 V124
    have gg124 : n0 ≤ b124 := Nat.le_trans Z0 (Nat.le_of_eq g124.symm)
    have zz124 : n0 ≤ h124.size := Nat.le_trans Z0 E124.1
    have f125 : Arv Z h124 b124 k124 .byte (4 : Int32) [(.int (0 : Int32)), (.int (0 : Int32)), (.int (0 : Int32)), (.int (0 : Int32))] (.int (0 : Int32)) := V124.pad (pad_rep [] (.int (0 : Int32)) 4)
    refine o_astore X124 hx (hb hby at_3) rfl (Ls' := #[.val (.int p0), .val (.int p1), .val (.int p2), .val (.int p3), .val (.int p4), .val (.ref b124), .unset, .unset, .unset, .unset, .unset]) rfl (n := 5) rfl ?_
    refine o_aload X124 hx (hb hby at_5) (v := (.ref b124)) rfl rfl (n := 7) rfl ?_
    refine o_iconst X124 hx (hb hby at_7) (v := (0 : Int32)) rfl (n := 8) rfl ?_
    refine o_iloadN X124 hx (hb hby at_8) (v := p0) rfl (n := 9) rfl ?_
    refine o_i2b X124 hx (hb hby at_9) (v := p0.toInt8.toInt32) rfl (n := 10) rfl ?_
    refine o_bastore X124 hx hZ e124 f125 (0) (by decide) (by decide) (Nat.le_of_ble_eq_true rfl) (w := (.int p0.toInt8.toInt32)) (congrArg Value.int (o_nar8 _)) (vs' := [(.int p0.toInt8.toInt32), (.int (0 : Int32)), (.int (0 : Int32)), (.int (0 : Int32))]) rfl (hb hby at_10) (n := 11) rfl ?_
    intro T126 h126 X126 e126 W126 V126
    have zz126 : n0 ≤ h126.size := Nat.le_trans zz124 (Nat.le_of_eq W126.size.symm)
    have N127 := Fr.snoc X126 N0 gg124
    refine o_aload X126 hx (hb hby at_11) (v := (.ref b124)) rfl rfl (n := 13) rfl ?_
    refine o_iconst X126 hx (hb hby at_13) (v := (1 : Int32)) rfl (n := 14) rfl ?_
    refine o_iloadN X126 hx (hb hby at_14) (v := p1) rfl (n := 15) rfl ?_
    refine o_i2b X126 hx (hb hby at_15) (v := p1.toInt8.toInt32) rfl (n := 16) rfl ?_
    refine o_bastore X126 hx hZ e126 V126 (1) (by decide) (by decide) (Nat.le_of_ble_eq_true rfl) (w := (.int p1.toInt8.toInt32)) (congrArg Value.int (o_nar8 _)) (vs' := [(.int p0.toInt8.toInt32), (.int p1.toInt8.toInt32), (.int (0 : Int32)), (.int (0 : Int32))]) rfl (hb hby at_16) (n := 17) rfl ?_
    intro T128 h128 X128 e128 W128 V128
    have zz128 : n0 ≤ h128.size := Nat.le_trans zz126 (Nat.le_of_eq W128.size.symm)
    have N129 := Fr.snoc X128 N127 gg124
    refine o_aload X128 hx (hb hby at_17) (v := (.ref b124)) rfl rfl (n := 19) rfl ?_
    refine o_iconst X128 hx (hb hby at_19) (v := (2 : Int32)) rfl (n := 20) rfl ?_
    refine o_iloadN X128 hx (hb hby at_20) (v := p2) rfl (n := 21) rfl ?_
    refine o_i2b X128 hx (hb hby at_21) (v := p2.toInt8.toInt32) rfl (n := 22) rfl ?_
    refine o_bastore X128 hx hZ e128 V128 (2) (by decide) (by decide) (Nat.le_of_ble_eq_true rfl) (w := (.int p2.toInt8.toInt32)) (congrArg Value.int (o_nar8 _)) (vs' := [(.int p0.toInt8.toInt32), (.int p1.toInt8.toInt32), (.int p2.toInt8.toInt32), (.int (0 : Int32))]) rfl (hb hby at_22) (n := 23) rfl ?_
    intro T130 h130 X130 e130 W130 V130
    have zz130 : n0 ≤ h130.size := Nat.le_trans zz128 (Nat.le_of_eq W130.size.symm)
    have N131 := Fr.snoc X130 N129 gg124
    refine o_aload X130 hx (hb hby at_23) (v := (.ref b124)) rfl rfl (n := 25) rfl ?_
    refine o_iconst X130 hx (hb hby at_25) (v := (3 : Int32)) rfl (n := 26) rfl ?_
    refine o_iloadN X130 hx (hb hby at_26) (v := p3) rfl (n := 27) rfl ?_
    refine o_i2b X130 hx (hb hby at_27) (v := p3.toInt8.toInt32) rfl (n := 28) rfl ?_
    refine o_bastore X130 hx hZ e130 V130 (3) (by decide) (by decide) (Nat.le_of_ble_eq_true rfl) (w := (.int p3.toInt8.toInt32)) (congrArg Value.int (o_nar8 _)) (vs' := [(.int p0.toInt8.toInt32), (.int p1.toInt8.toInt32), (.int p2.toInt8.toInt32), (.int p3.toInt8.toInt32)]) rfl (hb hby at_28) (n := 29) rfl ?_
    intro T132 h132 X132 e132 W132 V132
    have zz132 : n0 ≤ h132.size := Nat.le_trans zz130 (Nat.le_of_eq W132.size.symm)
    have N133 := Fr.snoc X132 N131 gg124
    refine o_iload X132 hx (hb hby at_29) (v := p4) rfl (n := 31) rfl ?_
    refine o_iconst X132 hx (hb hby at_31) (v := (3 : Int32)) rfl (n := 32) rfl ?_
    refine o_iand X132 hx (hb hby at_32) (v := (3 : Int32)) q (n := 33) rfl ?_
    refine o_istore X132 hx (hb hby at_33) (Ls' := #[.val (.int p0), .val (.int p1), .val (.int p2), .val (.int p3), .val (.int p4), .val (.ref b124), .val (.int (3 : Int32)), .unset, .unset, .unset, .unset]) rfl (n := 35) rfl ?_
    refine o_new X132 hx hZ hown (hw _ (List.mem_of_getElem? (i := 1) rfl)) (hw _ (List.mem_of_getElem? (i := 2) rfl)) (hw _ (List.mem_of_getElem? (i := 3) rfl)) e132 (hb hby at_35) (by decide) (by decide) (n := 38) rfl ?_
    intro T134 h134 b134 X134 e134 g134 E134 A134 D134
    have ne135 : b124 ≠ b134 := Nat.ne_of_lt (Nat.lt_of_lt_of_eq V132.lt g134.symm)
    have gg134 : n0 ≤ b134 := Nat.le_trans zz132 (Nat.le_of_eq g134.symm)
    have zz134 : n0 ≤ h134.size := Nat.le_trans zz132 E134.1
    have f136 := V132.ext E134
    have f137 : Fld Z h134 b134 "com/example/estim365/estim365/formats/BytesIn" "bytes" "[B" .null := D134 (Or.inr (hw _ (List.mem_of_getElem? (i := 11) rfl))) (ty := (.array .byte)) (by decide)
    have f138 : Fld Z h134 b134 "com/example/estim365/estim365/formats/BytesIn" "position" "I" (.int (0 : Int32)) := D134 (Or.inl (hw _ (List.mem_of_getElem? (i := 13) rfl))) (ty := .int) (by decide)
    refine o_dup X134 hx (hb hby at_38) rfl (n := 39) rfl ?_
    refine o_aload X134 hx (hb hby at_39) (v := (.ref b124)) rfl rfl (n := 41) rfl ?_
    refine o_iload X134 hx (hb hby at_41) (v := (3 : Int32)) rfl (n := 43) rfl ?_
    refine o_callN X134 hx hZ rfl hown (hw _ (List.mem_of_getElem? (i := 4) rfl)) (hw _ (List.mem_of_getElem? (i := 5) rfl)) (hw _ (List.mem_of_getElem? (i := 3) rfl)) (hw _ (List.mem_of_getElem? (i := 6) rfl)) (by decide) e134 (a := b134) (argsL := [(.ref b124), (.int (3 : Int32))]) (rest := [(.ref b134)]) (c_init l Z a0 hw b134 b124 (3 : Int32) h134 n0 zz134 gg134 A134 f137 f138) 1 (by decide) (by decide) (by decide) (by decide) (by rw [hml]; rfl) (lenOf o_pd0 rfl) rfl (Nat.le_of_eq rfl) (hb hby at_43) (n := 46) rfl ?_
    intro v139 T139 L139 X139 q139
    obtain ⟨rfl, Nq139, K139, o139_0, o139_1, o139_2⟩ := q139
    have N140 := Fr.app N133 Nq139
    have f141 := f136.keep K139 (ninS ne135 nin0)
    have f142 := A134.keep K139
    have zz139 : n0 ≤ T139.heap.size := Nat.le_trans zz134 K139.1
    show Goes p e below s _ _ _ (T139.setTop (mkF m 46 #[.val (.int p0), .val (.int p1), .val (.int p2), .val (.int p3), .val (.int p4), .val (.ref b124), .val (.int (3 : Int32)), .unset, .unset, .unset, .unset] [(.ref b134)]))
    refine o_astore X139 hx (hb hby at_46) rfl (Ls' := #[.val (.int p0), .val (.int p1), .val (.int p2), .val (.int p3), .val (.int p4), .val (.ref b124), .val (.int (3 : Int32)), .val (.ref b134), .unset, .unset, .unset]) rfl (n := 48) rfl ?_
    refine o_aload X139 hx (hb hby at_48) (v := (.ref b134)) rfl rfl (n := 50) rfl ?_
    refine o_callV X139 hx hZ hown (hw _ (List.mem_of_getElem? (i := 14) rfl)) (hw _ (List.mem_of_getElem? (i := 15) rfl)) (hw _ (List.mem_of_getElem? (i := 17) rfl)) (hw _ (List.mem_of_getElem? (i := 16) rfl)) (hw _ (List.mem_of_getElem? (i := 3) rfl)) (hw _ (List.mem_of_getElem? (i := 18) rfl)) (by decide) (rfl : T139.heap = T139.heap) o139_0 (argsL := []) (rest := []) (c_read_3 l Z a0 hw b134 b124 k124 p0.toInt8.toInt32 p1.toInt8.toInt32 p2.toInt8.toInt32 p3.toInt8.toInt32 T139.heap n0 zz139 gg134 o139_0 o139_1 o139_2 f141 ne135 (o_nar8 _)) 0 (by decide) (by decide) (by decide) (by decide) (by rw [hml]; rfl) (lenOf o_pd1 rfl) rfl (Nat.le_of_eq rfl) (hb hby at_50) (n := 53) rfl ?_
    intro v145 T145 L145 X145 q145
    obtain ⟨rfl, Nq145, K145, o145_0, o145_1, o145_2⟩ := q145
    have N146 := Fr.app N140 Nq145
    have f147 := f141.keep K145 (ninS ne135 nin0)
    have f148 := o139_0.keep K145
    have zz145 : n0 ≤ T145.heap.size := Nat.le_trans zz139 K145.1
    show Goes p e below s _ _ _ (T145.setTop (mkF m 53 #[.val (.int p0), .val (.int p1), .val (.int p2), .val (.int p3), .val (.int p4), .val (.ref b124), .val (.int (3 : Int32)), .val (.ref b134), .unset, .unset, .unset] [(.int p3.toInt8.toInt32)]))
    refine o_istore X145 hx (hb hby at_53) (Ls' := #[.val (.int p0), .val (.int p1), .val (.int p2), .val (.int p3), .val (.int p4), .val (.ref b124), .val (.int (3 : Int32)), .val (.ref b134), .val (.int p3.toInt8.toInt32), .unset, .unset]) rfl (n := 55) rfl ?_
    refine o_iload X145 hx (hb hby at_55) (v := p3.toInt8.toInt32) rfl (n := 57) rfl ?_
    refine o_iloadN X145 hx (hb hby at_57) (v := p0) rfl (n := 58) rfl ?_
    refine o_iloadN X145 hx (hb hby at_58) (v := p1) rfl (n := 59) rfl ?_
    refine o_iloadN X145 hx (hb hby at_59) (v := p2) rfl (n := 60) rfl ?_
    refine o_iloadN X145 hx (hb hby at_60) (v := p3) rfl (n := 61) rfl ?_
    refine o_iload X145 hx (hb hby at_61) (v := (3 : Int32)) rfl (n := 63) rfl ?_
    refine o_callS X145 hx hZ hown (hw _ (List.mem_of_getElem? (i := 19) rfl)) (hw _ (List.mem_of_getElem? (i := 20) rfl)) (hw _ (List.mem_of_getElem? (i := 21) rfl)) (hw _ (List.mem_of_getElem? (i := 22) rfl)) (by decide) (rfl : T145.heap = T145.heap) (argsL := [(.int p0), (.int p1), (.int p2), (.int p3), (.int (3 : Int32))]) (rest := [(.int p3.toInt8.toInt32)]) (c_pick_3 l Z a0 hw p0 p1 p2 p3 T145.heap) 1 (by decide) (by decide) (by decide) (by decide) (by rw [hml]; rfl) (lenOf o_pd2 rfl) rfl (Nat.le_of_eq rfl) (hb hby at_63) (n := 66) rfl ?_
    intro v151 T151 L151 X151 q151
    obtain ⟨rfl, e151, rfl⟩ := q151
    have N152 := Fr.app N146 (Fr.nil n0)
    show Goes p e below s _ _ _ (T151.setTop (mkF m 66 #[.val (.int p0), .val (.int p1), .val (.int p2), .val (.int p3), .val (.int p4), .val (.ref b124), .val (.int (3 : Int32)), .val (.ref b134), .val (.int p3.toInt8.toInt32), .unset, .unset] [(.int p3.toInt8.toInt32), (.int p3.toInt8.toInt32)]))
    refine o_icmpN X151 hx (hb hby at_66) (XT.ii_ne_f rfl) (n := 69) rfl ?_
    refine o_aload X151 hx (hb hby at_69) (v := (.ref b134)) rfl rfl (n := 71) rfl ?_
    refine o_callV X151 hx hZ hown (hw _ (List.mem_of_getElem? (i := 23) rfl)) (hw _ (List.mem_of_getElem? (i := 24) rfl)) (hw _ (List.mem_of_getElem? (i := 26) rfl)) (hw _ (List.mem_of_getElem? (i := 25) rfl)) (hw _ (List.mem_of_getElem? (i := 3) rfl)) (hw _ (List.mem_of_getElem? (i := 27) rfl)) (by decide) e151 o145_0 (argsL := []) (rest := []) (c_pos l Z a0 hw b134 (4 : Int32) T145.heap o145_2) 0 (by decide) (by decide) (by decide) (by decide) (by rw [hml]; rfl) (lenOf o_pd3 rfl) rfl (Nat.le_of_eq rfl) (hb hby at_71) (n := 74) rfl ?_
    intro v153 T153 L153 X153 q153
    obtain ⟨rfl, e153, rfl⟩ := q153
    have N154 := Fr.app N152 (Fr.nil n0)
    show Goes p e below s _ _ _ (T153.setTop (mkF m 74 #[.val (.int p0), .val (.int p1), .val (.int p2), .val (.int p3), .val (.int p4), .val (.ref b124), .val (.int (3 : Int32)), .val (.ref b134), .val (.int p3.toInt8.toInt32), .unset, .unset] [(.int (4 : Int32))]))
    refine o_iload X153 hx (hb hby at_74) (v := (3 : Int32)) rfl (n := 76) rfl ?_
    refine o_iconst X153 hx (hb hby at_76) (v := (1 : Int32)) rfl (n := 77) rfl ?_
    refine o_iadd X153 hx (hb hby at_77) (v := (4 : Int32)) (by decide) (n := 78) rfl ?_
    refine o_icmpN X153 hx (hb hby at_78) (XT.ii_ne_f (by decide)) (n := 81) rfl ?_
    refine o_iconst X153 hx (hb hby at_81) (v := (1 : Int32)) rfl (n := 82) rfl ?_
    refine o_goto X153 hx (hb hby at_82) (by decide) (n := 86) (by decide) ?_
    refine o_istore X153 hx (hb hby at_86) (Ls' := #[.val (.int p0), .val (.int p1), .val (.int p2), .val (.int p3), .val (.int p4), .val (.ref b124), .val (.int (3 : Int32)), .val (.ref b134), .val (.int p3.toInt8.toInt32), .val (.int (1 : Int32)), .unset]) rfl (n := 88) rfl ?_
    refine o_iload X153 hx (hb hby at_88) (v := (3 : Int32)) rfl (n := 90) rfl ?_
    refine o_iconst X153 hx (hb hby at_90) (v := (3 : Int32)) rfl (n := 91) rfl ?_
    refine o_icmpY X153 hx (hb hby at_91) (XT.ii_ge_t (by decide)) (by decide) (n := 141) (by decide) ?_
    refine o_iload X153 hx (hb hby at_141) (v := (1 : Int32)) rfl (n := 143) rfl ?_
    refine o_ifN X153 hx (hb hby at_143) (XT.i0_eq_f (by decide)) (n := 146) rfl ?_
    refine o_aload X153 hx (hb hby at_146) (v := (.ref b124)) rfl rfl (n := 148) rfl ?_
    refine o_iconst X153 hx (hb hby at_148) (v := (0 : Int32)) rfl (n := 149) rfl ?_
    refine o_baload X153 hx hZ e153 f147 (0) (by decide) (by decide) (v := (.int p0.toInt8.toInt32)) rfl (hb hby at_149) (n := 150) rfl ?_
    refine o_iloadN X153 hx (hb hby at_150) (v := p0) rfl (n := 151) rfl ?_
    refine o_i2b X153 hx (hb hby at_151) (v := p0.toInt8.toInt32) rfl (n := 152) rfl ?_
    refine o_icmpN X153 hx (hb hby at_152) (XT.ii_ne_f rfl) (n := 155) rfl ?_
    refine o_aload X153 hx (hb hby at_155) (v := (.ref b124)) rfl rfl (n := 157) rfl ?_
    refine o_iconst X153 hx (hb hby at_157) (v := (1 : Int32)) rfl (n := 158) rfl ?_
    refine o_baload X153 hx hZ e153 f147 (1) (by decide) (by decide) (v := (.int p1.toInt8.toInt32)) rfl (hb hby at_158) (n := 159) rfl ?_
    refine o_iloadN X153 hx (hb hby at_159) (v := p1) rfl (n := 160) rfl ?_
    refine o_i2b X153 hx (hb hby at_160) (v := p1.toInt8.toInt32) rfl (n := 161) rfl ?_
    refine o_icmpN X153 hx (hb hby at_161) (XT.ii_ne_f rfl) (n := 164) rfl ?_
    refine o_aload X153 hx (hb hby at_164) (v := (.ref b124)) rfl rfl (n := 166) rfl ?_
    refine o_iconst X153 hx (hb hby at_166) (v := (2 : Int32)) rfl (n := 167) rfl ?_
    refine o_baload X153 hx hZ e153 f147 (2) (by decide) (by decide) (v := (.int p2.toInt8.toInt32)) rfl (hb hby at_167) (n := 168) rfl ?_
    refine o_iloadN X153 hx (hb hby at_168) (v := p2) rfl (n := 169) rfl ?_
    refine o_i2b X153 hx (hb hby at_169) (v := p2.toInt8.toInt32) rfl (n := 170) rfl ?_
    refine o_icmpN X153 hx (hb hby at_170) (XT.ii_ne_f rfl) (n := 173) rfl ?_
    refine o_aload X153 hx (hb hby at_173) (v := (.ref b124)) rfl rfl (n := 175) rfl ?_
    refine o_iconst X153 hx (hb hby at_175) (v := (3 : Int32)) rfl (n := 176) rfl ?_
    refine o_baload X153 hx hZ e153 f147 (3) (by decide) (by decide) (v := (.int p3.toInt8.toInt32)) rfl (hb hby at_176) (n := 177) rfl ?_
    refine o_iloadN X153 hx (hb hby at_177) (v := p3) rfl (n := 178) rfl ?_
    refine o_i2b X153 hx (hb hby at_178) (v := p3.toInt8.toInt32) rfl (n := 179) rfl ?_
    refine o_icmpN X153 hx (hb hby at_179) (XT.ii_ne_f rfl) (n := 182) rfl ?_
    refine o_iconst X153 hx (hb hby at_182) (v := (1 : Int32)) rfl (n := 183) rfl ?_
    refine o_goto X153 hx (hb hby at_183) (by decide) (n := 187) (by decide) ?_
    refine o_istore X153 hx (hb hby at_187) (Ls' := #[.val (.int p0), .val (.int p1), .val (.int p2), .val (.int p3), .val (.int p4), .val (.ref b124), .val (.int (3 : Int32)), .val (.ref b134), .val (.int p3.toInt8.toInt32), .val (.int (1 : Int32)), .unset]) rfl (n := 189) rfl ?_
    refine o_iload X153 hx (hb hby at_189) (v := (1 : Int32)) rfl (n := 191) rfl ?_
    exact o_nreturn X153 hx hret hlk (t := .boolean) (by simp) (hb hby at_191) (by decide) (by decide) e153 ⟨rfl, N154⟩
set_option maxRecDepth 65536 in
set_option maxHeartbeats 40000000 in
theorem comes_1 {Post : Tables → Env → Array Value → State → Outcome → State → Prop} (hpost : ∀ tb e args s v u, (limb_1_1.after args s (.returned v) u = true ∧ limb_1_2.after args s (.returned v) u = true ∧ True) → FrameEnd s (.returned v) u (Jvm.fieldLocs frame_1_writes args s ++ Jvm.arrayLocs frame_1_arrays args s ++ Jvm.staticLocs frame_1_statics s) 16 128 → Post tb e args s (.returned v) u) :
    ArmFor flags0 classFile x code maxLocals ret World_1 tables_1 room_1 Calls_1 rest_1 Pre_1 Post := by
  intro l hfl _ _ p e ha hc hk s m args below hf hA hF happ hP
  obtain ⟨hcalls, hrest, hpre⟩ := hP
  obtain ⟨-, -, -, hnamed, -, -, -, hat⟩ := (Spec.applies_iff hf).mp happ
  obtain ⟨hg, hn⟩ := and_e (Cond.before_iff.mp (show (Jvm.Cond.and given_1 narrow_1).before args s = true from hpre))
  obtain ⟨gv1, gv2⟩ := and_e hg
  obtain ⟨gv3, gv4⟩ := and_e gv2
  obtain ⟨gv5, gv6⟩ := and_e gv4
  obtain ⟨gv7, gv8⟩ := and_e gv6
  obtain ⟨gv9, gv10⟩ := and_e gv8
  obtain ⟨w0, w1, w2, w3, w4, rfl⟩ : ∃ w0 w1 w2 w3 w4 : Value, args = #[w0, w1, w2, w3, w4] := by
    have hs : args.size = 5 := by simpa [Cond.value, given_1] using gv1
    obtain ⟨L⟩ := args
    match L, hs with
    | [w0, w1, w2, w3, w4], _ => exact ⟨w0, w1, w2, w3, w4, rfl⟩
  have hw := fun d (hd : d ∈ tables_1) => atoms_spec (ws := Jvm.Cond.code x code maxLocals ret :: tables_1) hat d (List.mem_cons_of_mem _ hd)
  have hfit : Fit s := fun {y c} hc i hi => by
    obtain ⟨ha, rfl⟩ := Array.getElem?_eq_some_iff.mp hc
    have q := List.all_eq_true.mp ((Array.all_eq_true_iff_forall_mem.mp hF) _ (Array.getElem_mem ha)) i (List.mem_range.mpr hi)
    simpa [Array.getElem?_eq_getElem hi] using q
  obtain ⟨i0, ei0⟩ := is_v gv3
  obtain rfl : w0 = (.int i0) := Option.some.inj ei0
  obtain ⟨i1, ei1⟩ := is_v gv5
  obtain rfl : w1 = (.int i1) := Option.some.inj ei1
  obtain ⟨i2, ei2⟩ := is_v gv7
  obtain rfl : w2 = (.int i2) := Option.some.inj ei2
  obtain ⟨i3, ei3⟩ := is_v gv9
  obtain rfl : w3 = (.int i3) := Option.some.inj ei3
  obtain ⟨i4, ei4⟩ := is_v gv10
  obtain rfl : w4 = (.int i4) := Option.some.inj ei4
  obtain ⟨n, o, h1, h2, h3, _, L, rfl, ⟨rfl, N⟩, hq⟩ := o_law l s _ hw i0 i1 i2 i3 i4 s.heap s.heap.size (Nat.le_refl _) p e ha hc hk s m _ below hf ((Spec.applies_iff_loose hf).mp happ).1 ⟨rfl, State.Warmed39.refl s, rfl⟩ trivial
  refine ⟨n, _, h1, h2, h3, hpost _ _ _ _ _ _ ⟨Cond.after_iff.mpr rfl, Cond.after_iff.mpr (eq_i res_at (Term.int_eval (1)) rfl), trivial⟩ ⟨hq.1, hq.2.1, (hq.2.2.sift fun y hy => Or.inr (N y hy)).mono (by decide) (by decide)⟩⟩
theorem main_1_1 : Claimed_1_1 := comes_1 fun _ _ _ _ _ _ h hF => ⟨h.1, hF⟩
theorem main_1_2 : Claimed_1_2 := comes_1 fun _ _ _ _ _ _ h hF => ⟨h.2.1, hF⟩
end Jvm.Pilot.@@N@@
namespace Jvm.Pilot.@@N@@
open Jvm Jvm.ClassFile Sem Op Lib Jvm.Free Jvm.Stand Jvm.Pilot.@@N@@.Jvm.D
/-! MADE BY PROGRAM (witnessworld.py) out of the Statement's table words and the real class files: 9 classes; the members and pool entries that the words name. The judged class is class 1, her method 1. -/
namespace start1
open Jvm.ClassFile
def u (s : String) : CpInfo := .utf8 (stringToUtf16 s)
/-- a pool by its gaps: so many unusable entries, then the entry; so many at the end -/
def gap : Nat → List CpInfo → List CpInfo
  | 0, r => r
  | n + 1, r => .unusable :: gap n r
def poolList (es : List (Nat × CpInfo)) (last : Nat) : List CpInfo := es.foldr (fun e r => gap e.1 (e.2 :: r)) (gap last [])
def pool (es : List (Nat × CpInfo)) (last : Nat) : Array CpInfo := ⟨poolList es last⟩
def fileOf (pool : Array CpInfo) (this : Nat) (attrs : Array Attribute := #[]) (ms : Array MethodInfo := #[]) (fl : Nat := 33) (sup : Nat := 0) (ifs : Array Nat := #[]) (fds : Array FieldInfo := #[]) : ClassFile where
  minorVersion := 0
  majorVersion := 65
  constantPool := pool
  accessFlags := fl
  thisClass := this
  superClass := sup
  interfaces := ifs
  fields := fds
  methods := ms
  attributes := attrs
def plain (name : String) (sup : Option ClassId) : Class where
  name := name
  kind := .ordinary
  loader := none
  accessFlags := 33
  super := sup
  interfaces := #[]
  cf := none
  fields := #[]
  methods := #[]
  instanceTypes := #[]
  staticTypes := #[]
  resolved := #[]
  callSites := []
  init := .initialized
  statics := none
  mirror := none

def pool0 : Array CpInfo := pool [(5, u "<init>"), (0, u "()V"), (1, .class_ 10), (1, u "java/lang/Object")] 113

def k0c0 : Code := { maxStack := 0, maxLocals := 1, code := object_method_1_code, exceptionTable := #[], attributes := #[] }
def k0m0 : Method := { name := "<init>", desc := "()V", sig := { parameters := [], returnType := none }, accessFlags := 1, code := some k0c0 }
/-- java/lang/Object -/
def k0 : Class := { plain "java/lang/Object" none with
  accessFlags := 33
  interfaces := #[]
  cf := some (fileOf pool0 8 #[] #[{ accessFlags := 1, nameIndex := 5, descriptorIndex := 6, attributes := #[] }] 33 0 #[] #[])
  fields := #[]
  methods := #[k0m0]
  instanceTypes := #[]
  staticTypes := #[]
  resolved := Array.replicate 124 none
  statics := none }

def pool1 : Array CpInfo := pool [(2, .class_ 4), (1, u "java/lang/Object"), (0, u "<init>"), (0, u "()V"), (0, .class_ 8), (0, u "com/example/estim365/estim365/formats/BytesIn"), (0, .methodref 7 10), (0, .nameAndType 5 11), (0, u "([BI)V"), (0, .methodref 7 13), (0, .nameAndType 14 15), (0, u "readByte"), (0, u "()B"), (0, .methodref 17 18), (0, .class_ 19), (0, .nameAndType 20 21), (0, u "com/example/estim365/estim365/formats/BytesInReadBytePinLaw"), (0, u "pick"), (0, u "(IIIII)B"), (0, .methodref 7 23), (0, .nameAndType 24 25), (0, u "position"), (0, u "()I"), (2, u "law"), (0, u "(IIIII)Z")] 5

def k1m0 : Method := { name := "<init>", desc := "()V", sig := { parameters := [], returnType := none }, accessFlags := 1, code := none }
def k1c1 : Code := { maxStack := 7, maxLocals := 11, code := code, exceptionTable := #[], attributes := #[] }
def k1m1 : Method := { name := "law", desc := "(IIIII)Z", sig := { parameters := [.int, .int, .int, .int, .int], returnType := some .boolean }, accessFlags := 9, code := some k1c1 }
def k1c2 : Code := { maxStack := 2, maxLocals := 5, code := method_3_code, exceptionTable := #[], attributes := #[] }
def k1m2 : Method := { name := "pick", desc := "(IIIII)B", sig := { parameters := [.int, .int, .int, .int, .int], returnType := some .byte }, accessFlags := 10, code := some k1c2 }
/-- com/example/estim365/estim365/formats/BytesInReadBytePinLaw -/
def k1 : Class := { plain "com/example/estim365/estim365/formats/BytesInReadBytePinLaw" (some 0) with
  accessFlags := 49
  interfaces := #[]
  cf := some (fileOf pool1 17 #[] #[{ accessFlags := 1, nameIndex := 5, descriptorIndex := 6, attributes := #[] }, { accessFlags := 9, nameIndex := 28, descriptorIndex := 29, attributes := #[] }, { accessFlags := 10, nameIndex := 20, descriptorIndex := 21, attributes := #[] }] 49 2 #[] #[])
  fields := #[]
  methods := #[k1m0, k1m1, k1m2]
  instanceTypes := #[]
  staticTypes := #[]
  resolved := Array.replicate 35 none
  statics := none }

def pool2 : Array CpInfo := pool [(1, .methodref 2 3), (0, .class_ 4), (0, .nameAndType 5 6), (0, u "java/lang/Object"), (0, u "<init>"), (0, u "()V"), (0, .fieldref 8 9), (0, .class_ 10), (0, .nameAndType 11 12), (0, u "com/example/estim365/estim365/formats/BytesIn"), (0, u "bytes"), (0, u "[B"), (0, .fieldref 8 14), (0, .nameAndType 15 16), (0, u "position"), (0, u "I"), (40, u "readByte"), (0, u "()B"), (20, u "([BI)V"), (2, u "()I")] 11

def k2c0 : Code := { maxStack := 2, maxLocals := 3, code := prog_78_method_1_code, exceptionTable := #[], attributes := #[] }
def k2m0 : Method := { name := "<init>", desc := "([BI)V", sig := { parameters := [(.array .byte), .int], returnType := none }, accessFlags := 0, code := some k2c0 }
def k2c1 : Code := { maxStack := 1, maxLocals := 1, code := prog_78_method_2_code, exceptionTable := #[], attributes := #[] }
def k2m1 : Method := { name := "position", desc := "()I", sig := { parameters := [], returnType := some .int }, accessFlags := 0, code := some k2c1 }
def k2c2 : Code := { maxStack := 5, maxLocals := 1, code := prog_78_method_3_code, exceptionTable := #[], attributes := #[] }
def k2m2 : Method := { name := "readByte", desc := "()B", sig := { parameters := [], returnType := some .byte }, accessFlags := 0, code := some k2c2 }
/-- com/example/estim365/estim365/formats/BytesIn -/
def k2 : Class := { plain "com/example/estim365/estim365/formats/BytesIn" (some 0) with
  accessFlags := 32
  interfaces := #[]
  cf := some (fileOf pool2 8 #[] #[{ accessFlags := 0, nameIndex := 5, descriptorIndex := 79, attributes := #[] }, { accessFlags := 0, nameIndex := 15, descriptorIndex := 82, attributes := #[] }, { accessFlags := 0, nameIndex := 57, descriptorIndex := 58, attributes := #[] }] 32 2 #[] #[{ accessFlags := 18, nameIndex := 11, descriptorIndex := 12, attributes := #[] }, { accessFlags := 2, nameIndex := 15, descriptorIndex := 16, attributes := #[] }])
  fields := #[{ name := "bytes", type := (.array .byte), accessFlags := 18, slot := 0, constantValue := 0 }, { name := "position", type := .int, accessFlags := 2, slot := 1, constantValue := 0 }]
  methods := #[k2m0, k2m1, k2m2]
  instanceTypes := #[(.array .byte), .int]
  staticTypes := #[]
  resolved := Array.replicate 94 none
  statics := none }

def pool3 : Array CpInfo := pool [(1, u "java/lang/Cloneable"), (0, .class_ 1), (0, u "java/lang/Object"), (0, .class_ 3)] 3

/-- java/lang/Cloneable -/
def k3 : Class := { plain "java/lang/Cloneable" (some 0) with
  accessFlags := 1537
  interfaces := #[]
  cf := some (fileOf pool3 2 #[] #[] 1537 4 #[] #[])
  fields := #[]
  methods := #[]
  instanceTypes := #[]
  staticTypes := #[]
  resolved := Array.replicate 8 none
  statics := none }

def pool4 : Array CpInfo := pool [(1, u "java/io/Serializable"), (0, .class_ 1), (0, u "java/lang/Object"), (0, .class_ 3)] 3

/-- java/io/Serializable -/
def k4 : Class := { plain "java/io/Serializable" (some 0) with
  accessFlags := 1537
  interfaces := #[]
  cf := some (fileOf pool4 2 #[] #[] 1537 4 #[] #[])
  fields := #[]
  methods := #[]
  instanceTypes := #[]
  staticTypes := #[]
  resolved := Array.replicate 8 none
  statics := none }

/-- the primitive byte -/
def k5 : Class := { plain "byte" none with kind := .primitive 'B', accessFlags := 0x411 }
/-- [B -/
def k6 : Class := { plain "[B" (some 0) with kind := .array 5 .byte, interfaces := #[3, 4], accessFlags := 1041 }

/-- the primitive int -/
def k7 : Class := { plain "int" none with kind := .primitive 'I', accessFlags := 0x411 }
/-- [I -/
def k8 : Class := { plain "[I" (some 0) with kind := .array 7 .int, interfaces := #[3, 4], accessFlags := 1041 }

def heap : Heap := #[]
def classes : Array Class := #[k0, k1, k2, k3, k4, k5, k6, k7, k8]
def interned : List (Array UInt16 × Addr) := []
def slotsUsed : Nat := 0
def theMethod : MethodId := ⟨1, 1⟩
def args0 : Array Value := #[.int 5, .int 5, .int 5, .int 5, .int 5]
def aboutOver (below : List Frame) : State where
  vm := { classes := classes, interned := interned.toArray }
  heap := heap
  slotsUsed := slotsUsed
  threads := #[{ frames := .invoking theMethod args0 :: below }]
def below0 : List Frame := [.native { method := ⟨0, 0⟩, args := #[] }]
def about1 : State := aboutOver below0
def p0 : Program := .bare "" "" ""
def e0 : Env := launch0.env 0 0 0
theorem w_frames : about1.frames = Frame.invoking theMethod args0 :: below0 := rfl
set_option maxRecDepth 65536 in
theorem w_args : argsFit about1.vm theMethod args0 = true := by decide +kernel
set_option maxRecDepth 65536 in
theorem w_heap : heapFits about1 = true := by decide +kernel
set_option maxRecDepth 65536 in
theorem w_runnable : about1.curStatus? = some .runnable := by decide +kernel
set_option maxRecDepth 65536 in
theorem w_alone : about1.alone = true := by decide +kernel
set_option maxRecDepth 65536 in
theorem w_named : about1.methodNamed? x = some theMethod := by decide +kernel
set_option maxRecDepth 65536 in
theorem w_hears : about1.hears theMethod below0 = true := by decide +kernel
set_option maxRecDepth 65536 in
theorem w_ripe : about1.ripe theMethod args0 below0 = true := by decide +kernel
theorem w_running : about1.status = .running := rfl
set_option maxRecDepth 65536 in
theorem w_room : about1.hasRoom e0.platform room_1 = true :=
  launch0.hasRoom_least _ room_1 (by decide +kernel) (by decide +kernel) (by decide +kernel) (by decide +kernel) (by decide +kernel) (by decide +kernel)
theorem allAtoms_all (ts : List Jvm.Cond) (a : Array Jvm.Value) (st : Jvm.State) : (allAtoms ts).before a st = ts.all (fun c => c.before a st) := by
  induction ts with
  | nil => rfl
  | cons c t ih =>
    show (Jvm.Cond.and c (allAtoms t)).before a st = _
    rw [Jvm.Cond.before_and, ih, List.all_cons]
def words1 : List Jvm.Cond := Jvm.Cond.code x code maxLocals ret :: tables_1
/-- a 'code' word, met by the world's own term for the bytes: nothing is compared byte by byte -/
theorem code_word {y : MethodName} {bytes : ByteArray} {mx : Nat} {rt : Option FieldType} {a : Array Value} {s : State} {m : MethodId} {meth : Method} {c : Code} (h1 : s.methodNamed? y = some m) (h2 : s.vm.method? m = some meth) (h3 : meth.code = some c) (h4 : c.code = bytes)
    (h5 : (c.maxLocals == mx && c.exceptionTable.isEmpty && decide (c.maxStack ≤ mostOperands) && decide (meth.sig.returnType = rt) && !meth.locks && decide (parseMethodDescriptor y.desc = some meth.sig)) = true) : (Jvm.Cond.code y bytes mx rt).before a s = true := by
  simp only [Bool.and_eq_true, beq_iff_eq, Bool.not_eq_true', decide_eq_true_eq] at h5
  obtain ⟨⟨⟨⟨⟨g1, g2⟩, g3⟩, g4⟩, g5⟩, g6⟩ := h5
  simp [Cond.before, Cond.holds, Cond.value, h1, h2, h3, h4, g1, g2, g3, g4, g5, g6]
def isCode : Jvm.Cond → Bool
  | .code _ _ _ _ => true
  | _ => false
theorem all_split {L : List Jvm.Cond} {P : Jvm.Cond → Bool} (h1 : L.all (fun c => isCode c || P c) = true) (h2 : ∀ c ∈ L.filter isCode, P c = true) : L.all P = true := by
  refine List.all_eq_true.mpr fun c hc => ?_
  have h := List.all_eq_true.mp h1 c hc
  rcases Bool.eq_false_or_eq_true (isCode c) with hi | hi
  · exact h2 c (List.mem_filter.mpr ⟨hc, hi⟩)
  · simpa [hi] using h
set_option maxRecDepth 65536 in
theorem w_c0 : (Jvm.Cond.code x code maxLocals ret).before args0 about1 = true := code_word (m := ⟨1, 1⟩) (meth := k1m1) (c := k1c1) (by decide +kernel) rfl rfl rfl (by decide +kernel)
set_option maxRecDepth 65536 in
theorem w_c1 : (Jvm.Cond.code ({ cls := "com/example/estim365/estim365/formats/BytesIn", name := "<init>", desc := "([BI)V" } : Jvm.MethodName) prog_78_method_1_code (3 : Nat) (Option.none : Option Jvm.ClassFile.FieldType)).before args0 about1 = true := code_word (m := ⟨2, 0⟩) (meth := k2m0) (c := k2c0) (by decide +kernel) rfl rfl rfl (by decide +kernel)
set_option maxRecDepth 65536 in
theorem w_c2 : (Jvm.Cond.code ({ cls := "java/lang/Object", name := "<init>", desc := "()V" } : Jvm.MethodName) object_method_1_code (1 : Nat) (Option.none : Option Jvm.ClassFile.FieldType)).before args0 about1 = true := code_word (m := ⟨0, 0⟩) (meth := k0m0) (c := k0c0) (by decide +kernel) rfl rfl rfl (by decide +kernel)
set_option maxRecDepth 65536 in
theorem w_c3 : (Jvm.Cond.code ({ cls := "com/example/estim365/estim365/formats/BytesIn", name := "readByte", desc := "()B" } : Jvm.MethodName) prog_78_method_3_code (1 : Nat) (Option.some Jvm.ClassFile.FieldType.byte)).before args0 about1 = true := code_word (m := ⟨2, 2⟩) (meth := k2m2) (c := k2c2) (by decide +kernel) rfl rfl rfl (by decide +kernel)
set_option maxRecDepth 65536 in
theorem w_c4 : (Jvm.Cond.code ({ cls := "com/example/estim365/estim365/formats/BytesInReadBytePinLaw", name := "pick", desc := "(IIIII)B" } : Jvm.MethodName) method_3_code (5 : Nat) (Option.some Jvm.ClassFile.FieldType.byte)).before args0 about1 = true := code_word (m := ⟨1, 2⟩) (meth := k1m2) (c := k1c2) (by decide +kernel) rfl rfl rfl (by decide +kernel)
set_option maxRecDepth 65536 in
theorem w_c5 : (Jvm.Cond.code ({ cls := "com/example/estim365/estim365/formats/BytesIn", name := "position", desc := "()I" } : Jvm.MethodName) prog_78_method_2_code (1 : Nat) (Option.some Jvm.ClassFile.FieldType.int)).before args0 about1 = true := code_word (m := ⟨2, 1⟩) (meth := k2m1) (c := k2c1) (by decide +kernel) rfl rfl rfl (by decide +kernel)
def codes1 : List Jvm.Cond := [Jvm.Cond.code x code maxLocals ret, Jvm.Cond.code ({ cls := "com/example/estim365/estim365/formats/BytesIn", name := "<init>", desc := "([BI)V" } : Jvm.MethodName) prog_78_method_1_code (3 : Nat) (Option.none : Option Jvm.ClassFile.FieldType), Jvm.Cond.code ({ cls := "java/lang/Object", name := "<init>", desc := "()V" } : Jvm.MethodName) object_method_1_code (1 : Nat) (Option.none : Option Jvm.ClassFile.FieldType), Jvm.Cond.code ({ cls := "com/example/estim365/estim365/formats/BytesIn", name := "readByte", desc := "()B" } : Jvm.MethodName) prog_78_method_3_code (1 : Nat) (Option.some Jvm.ClassFile.FieldType.byte), Jvm.Cond.code ({ cls := "com/example/estim365/estim365/formats/BytesInReadBytePinLaw", name := "pick", desc := "(IIIII)B" } : Jvm.MethodName) method_3_code (5 : Nat) (Option.some Jvm.ClassFile.FieldType.byte), Jvm.Cond.code ({ cls := "com/example/estim365/estim365/formats/BytesIn", name := "position", desc := "()I" } : Jvm.MethodName) prog_78_method_2_code (1 : Nat) (Option.some Jvm.ClassFile.FieldType.int)]
set_option maxRecDepth 65536 in
theorem codes_eq : words1.filter isCode = codes1 := rfl
theorem w_codes : ∀ c ∈ words1.filter isCode, c.before args0 about1 = true := by
  rw [codes_eq]
  intro c hc
  simp only [codes1, List.mem_cons, List.not_mem_nil, or_false] at hc
  rcases hc with rfl | rfl | rfl | rfl | rfl | rfl
  · exact w_c0
  · exact w_c1
  · exact w_c2
  · exact w_c3
  · exact w_c4
  · exact w_c5
set_option maxRecDepth 65536 in
theorem w_t1 : (words1.take 24).all (fun c => isCode c || c.before args0 about1) = true := by decide +kernel
set_option maxRecDepth 65536 in
theorem w_t2 : (words1.drop 24).all (fun c => isCode c || c.before args0 about1) = true := by decide +kernel
theorem w_tables : (allAtoms (Jvm.Cond.code x code maxLocals ret :: tables_1)).before args0 about1 = true := by
  rw [allAtoms_all]
  show words1.all (fun c => c.before args0 about1) = true
  refine all_split ?_ w_codes
  rw [← List.take_append_drop 24 words1, List.all_append, w_t1, w_t2]
  rfl
set_option maxRecDepth 65536 in
theorem w_case : (Jvm.Cond.and given_1 narrow_1).before args0 about1 = true := by decide +kernel
theorem w_applies : (headSpec (Jvm.Cond.code x code maxLocals ret :: tables_1) room_1).applies x e0.platform about1 = true :=
  (Spec.applies_iff w_frames).mpr ⟨w_running, w_runnable, w_alone, w_named, w_hears, w_ripe, w_room, w_tables⟩
theorem atStart : AtStart classFile x code maxLocals ret World_1 tables_1 room_1 Calls_1 rest_1 Pre_1 launch0 p0 e0 about1 theMethod args0 below0 :=
  ⟨lists_1, trivial, launch0.admits_env _ _ _, launch0.least_env, fairChoices_fair.cas, fairChoices_fair.clock, w_frames, w_args, w_heap, w_applies, trivial, trivial, w_case⟩
end start1
theorem witness_1 : WitnessClaimed_1 := ⟨start1.p0, start1.e0, start1.about1, start1.theMethod, start1.args0, start1.below0, start1.atStart⟩
end Jvm.Pilot.@@N@@
