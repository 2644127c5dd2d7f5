import JvmDerived
import JvmDerived.Pilot.@@N@@Statement
import JvmDerived.Pilot.@@N@@Code
set_option linter.unusedVariables false
set_option linter.unusedSimpArgs false
namespace Jvm.Pilot.@@N@@
open Jvm Jvm.ClassFile Sem Op Lib Jvm.Free Jvm.Stand Jvm.LawKit Jvm.RoadKit Bundle Jvm.Pilot.@@N@@.Jvm.D
section Layer
variable {p : Program} {l : Launch} {e : Env} {R : Room} {s : State} {m : MethodId} {args : Array Value} {below : List Frame} {meth : Method} {c : Code} {T : State} {locs : List Loc} {cells slots : Nat} {Q : Option Value → Heap → List Loc → Prop} {K N : Nat} {pc n : Nat} {Ls : Array Slot} {rest st : List Value} {Z : State} {a0 : Array Value} {h : Heap}
/-- from st on the invocation ends as Q says -/
def Goes (p : Program) (e : Env) (below : List Frame) (s : State) (Q : Option Value → Heap → List Loc → Prop) (K N : Nat) (st : State) : Prop :=
  ∃ s₂ o, Steps p.tables e below st s₂ ∧ s₂.status = .running ∧ Ended s₂ below o ∧ ∃ v L, o = .returned v ∧ Q v s₂.heap L ∧ FrameEnd s o s₂ L K N
theorem Goes.via {st st' : State} (g : Goes p e below s Q K N st') (h : ∀ t, Steps p.tables e below st' t → Steps p.tables e below st t) : Goes p e below s Q K N st := by
  obtain ⟨s₂, o, h1, r⟩ := g
  exact ⟨s₂, o, h _ h1, r⟩
/-- a body's contract -/
def Does (l : Launch) (Z : State) (y : MethodName) (bytes : ByteArray) (maxL : Nat) (ret : Option FieldType) (ws : List Jvm.Cond) (rm : Room) (as : Array Value) (h : Heap) (Q : Option Value → Heap → List Loc → Prop) : Prop :=
  MetFree l y (head1 (Jvm.Cond.code y bytes maxL ret :: ws) rm) (fun a U => a = as ∧ Z.Warmed39 U.vm ∧ U.heap = h) (fun _ _ _ _ _ => True) (fun _ U o U' => ∃ v L, o = .returned v ∧ Q v U'.heap L ∧ FrameEnd U o U' L rm.cells rm.slots)
theorem Does.of {y : MethodName} {bytes : ByteArray} {maxL : Nat} {ret : Option FieldType} {ws : List Jvm.Cond} {rm : Room} {as : Array Value} (hpl : plainFor y = true)
    (body : ∀ (p : Program) (e : Env) (s : State) (m : MethodId) (below : List Frame) (meth : Method) (c : Code) (T : State), p.tables.exec = Jvm.exec → c.code = bytes → c.maxLocals = maxL → s.vm.findClass y.cls = some m.cls → meth.name = y.name → meth.sig.returnType = ret → meth.locks = false → Z.Warmed39 s.vm → Stand p l e rm s m as below meth c T [] 0 0 → T.heap = h → Goes p e below s Q rm.cells rm.slots (T.setTop (entryFrame m as maxL))) : Does l Z y bytes maxL ret ws rm as h Q := by
  refine MetFree.of_bodySF hpl hisR ?_
  intro p e s m args below meth c s₁ Bd hml0 hP hK
  obtain ⟨rfl, hZ, hh⟩ := hP
  have X0 : Stand p l e rm s m args below meth c s₁ [] 0 0 := Stand.of_body Bd
  exact body p e s m below meth c s₁ Bd.exec Bd.bytes hml0 (findClass_of_methodNamed Bd.named) (name_of_methodNamed Bd.named Bd.method).1 Bd.returns Bd.notSynchronized hZ X0 (by rw [← hh, Bd.state]; rfl)
theorem o_entry {as : Array Value} {maxL : Nat} (q : entryFrame m as maxL = mkF m 0 Ls []) (g : Goes p e below s Q K N (T.setTop (mkF m 0 Ls []))) : Goes p e below s Q K N (T.setTop (entryFrame m as maxL)) := q ▸ g
theorem o_iload (X : Stand p l e R s m args below meth c T locs cells slots) (hx : p.tables.exec = Jvm.exec) {j : Nat} {v : Int32} (hd : decode c.code pc = .ok (.iload j, 2)) (hl : Ls[j]? = some (.val (.int v))) (hn : pc + 2 = n) (g : Goes p e below s Q K N (T.setTop (mkF m n Ls (.int v :: st)))) : Goes p e below s Q K N (T.setTop (mkF m pc Ls st)) := by
  subst hn
  exact g.via fun t k => XS.iload X.here hx rfl hd hl k
theorem o_iloadN (X : Stand p l e R s m args below meth c T locs cells slots) (hx : p.tables.exec = Jvm.exec) {j : Fin 4} {v : Int32} (hd : decode c.code pc = .ok (.iload_n j, 1)) (hl : Ls[j.val]? = some (.val (.int v))) (hn : pc + 1 = n) (g : Goes p e below s Q K N (T.setTop (mkF m n Ls (.int v :: st)))) : Goes p e below s Q K N (T.setTop (mkF m pc Ls st)) := by
  subst hn
  exact g.via fun t k => XS.iloadN X.here hx rfl hd hl k
theorem o_lload (X : Stand p l e R s m args below meth c T locs cells slots) (hx : p.tables.exec = Jvm.exec) {j : Nat} {v : Int64} (hd : decode c.code pc = .ok (.lload j, 2)) (hl : Ls[j]? = some (.val (.long v))) (hn : pc + 2 = n) (g : Goes p e below s Q K N (T.setTop (mkF m n Ls (.long v :: st)))) : Goes p e below s Q K N (T.setTop (mkF m pc Ls st)) := by
  subst hn
  exact g.via fun t k => XS.lload X.here hx rfl hd hl k
theorem o_lloadN (X : Stand p l e R s m args below meth c T locs cells slots) (hx : p.tables.exec = Jvm.exec) {j : Fin 4} {v : Int64} (hd : decode c.code pc = .ok (.lload_n j, 1)) (hl : Ls[j.val]? = some (.val (.long v))) (hn : pc + 1 = n) (g : Goes p e below s Q K N (T.setTop (mkF m n Ls (.long v :: st)))) : Goes p e below s Q K N (T.setTop (mkF m pc Ls st)) := by
  subst hn
  exact g.via fun t k => XS.lloadN X.here hx rfl hd hl k
theorem o_aload (X : Stand p l e R s m args below meth c T locs cells slots) (hx : p.tables.exec = Jvm.exec) {j : Nat} {v : Value} (hd : decode c.code pc = .ok (.aload j, 2)) (hl : Ls[j]? = some (.val v)) (hv : v.isRef = true) (hn : pc + 2 = n) (g : Goes p e below s Q K N (T.setTop (mkF m n Ls (v :: st)))) : Goes p e below s Q K N (T.setTop (mkF m pc Ls st)) := by
  subst hn
  exact g.via fun t k => XS.aload X.here hx rfl hd hl hv k
theorem o_aloadN (X : Stand p l e R s m args below meth c T locs cells slots) (hx : p.tables.exec = Jvm.exec) {j : Fin 4} {v : Value} (hd : decode c.code pc = .ok (.aload_n j, 1)) (hl : Ls[j.val]? = some (.val v)) (hv : v.isRef = true) (hn : pc + 1 = n) (g : Goes p e below s Q K N (T.setTop (mkF m n Ls (v :: st)))) : Goes p e below s Q K N (T.setTop (mkF m pc Ls st)) := by
  subst hn
  exact g.via fun t k => XS.aloadN X.here hx rfl hd hl hv k
theorem o_istore (X : Stand p l e R s m args below meth c T locs cells slots) (hx : p.tables.exec = Jvm.exec) {j : Nat} {v : Int32} {Ls' : Array Slot} (hd : decode c.code pc = .ok (.istore j, 2)) (hl : storeLocals Ls j (.int v) = some Ls') (hn : pc + 2 = n) (g : Goes p e below s Q K N (T.setTop (mkF m n Ls' rest))) : Goes p e below s Q K N (T.setTop (mkF m pc Ls (.int v :: rest))) := by
  subst hn
  exact g.via fun t k => XS.istore X.here hx rfl hd rfl hl k
theorem o_istoreN (X : Stand p l e R s m args below meth c T locs cells slots) (hx : p.tables.exec = Jvm.exec) {j : Fin 4} {v : Int32} {Ls' : Array Slot} (hd : decode c.code pc = .ok (.istore_n j, 1)) (hl : storeLocals Ls j.val (.int v) = some Ls') (hn : pc + 1 = n) (g : Goes p e below s Q K N (T.setTop (mkF m n Ls' rest))) : Goes p e below s Q K N (T.setTop (mkF m pc Ls (.int v :: rest))) := by
  subst hn
  exact g.via fun t k => XS.istoreN X.here hx rfl hd rfl hl k
theorem o_lstore (X : Stand p l e R s m args below meth c T locs cells slots) (hx : p.tables.exec = Jvm.exec) {j : Nat} {v : Int64} {Ls' : Array Slot} (hd : decode c.code pc = .ok (.lstore j, 2)) (hl : storeLocals Ls j (.long v) = some Ls') (hn : pc + 2 = n) (g : Goes p e below s Q K N (T.setTop (mkF m n Ls' rest))) : Goes p e below s Q K N (T.setTop (mkF m pc Ls (.long v :: rest))) := by
  subst hn
  exact g.via fun t k => XS.lstore X.here hx rfl hd rfl hl k
theorem o_lstoreN (X : Stand p l e R s m args below meth c T locs cells slots) (hx : p.tables.exec = Jvm.exec) {j : Fin 4} {v : Int64} {Ls' : Array Slot} (hd : decode c.code pc = .ok (.lstore_n j, 1)) (hl : storeLocals Ls j.val (.long v) = some Ls') (hn : pc + 1 = n) (g : Goes p e below s Q K N (T.setTop (mkF m n Ls' rest))) : Goes p e below s Q K N (T.setTop (mkF m pc Ls (.long v :: rest))) := by
  subst hn
  exact g.via fun t k => XS.lstoreN X.here hx rfl hd rfl hl k
theorem o_astore (X : Stand p l e R s m args below meth c T locs cells slots) (hx : p.tables.exec = Jvm.exec) {j : Nat} {v : Value} {Ls' : Array Slot} (hd : decode c.code pc = .ok (.astore j, 2)) (hv : v.isRef = true) (hl : storeLocals Ls j v = some Ls') (hn : pc + 2 = n) (g : Goes p e below s Q K N (T.setTop (mkF m n Ls' rest))) : Goes p e below s Q K N (T.setTop (mkF m pc Ls (v :: rest))) := by
  subst hn
  exact g.via fun t k => XS.astore X.here hx rfl hd rfl hv hl k
theorem o_astoreN (X : Stand p l e R s m args below meth c T locs cells slots) (hx : p.tables.exec = Jvm.exec) {j : Fin 4} {v : Value} {Ls' : Array Slot} (hd : decode c.code pc = .ok (.astore_n j, 1)) (hv : v.isRef = true) (hl : storeLocals Ls j.val v = some Ls') (hn : pc + 1 = n) (g : Goes p e below s Q K N (T.setTop (mkF m n Ls' rest))) : Goes p e below s Q K N (T.setTop (mkF m pc Ls (v :: rest))) := by
  subst hn
  exact g.via fun t k => XS.astoreN X.here hx rfl hd rfl hv hl k
theorem o_iinc (X : Stand p l e R s m args below meth c T locs cells slots) (hx : p.tables.exec = Jvm.exec) {j : Nat} {cst : Int} {x w : Int32} {Ls' : Array Slot} (hd : decode c.code pc = .ok (.iinc j cst, 3)) (hl : Ls[j]? = some (.val (.int x))) (hw : x + Int32.ofInt cst = w) (hl' : storeLocals Ls j (.int w) = some Ls') (hn : pc + 3 = n) (g : Goes p e below s Q K N (T.setTop (mkF m n Ls' st))) : Goes p e below s Q K N (T.setTop (mkF m pc Ls st)) := by
  subst hn
  exact g.via fun t k => XS.iinc X.here hx rfl hd hl (by rw [hw]; exact hl') k
theorem o_iconst (X : Stand p l e R s m args below meth c T locs cells slots) (hx : p.tables.exec = Jvm.exec) {i : Int} {v : Int32} (hd : decode c.code pc = .ok (.iconst i, 1)) (hv : Int32.ofInt i = v) (hn : pc + 1 = n) (g : Goes p e below s Q K N (T.setTop (mkF m n Ls (.int v :: st)))) : Goes p e below s Q K N (T.setTop (mkF m pc Ls st)) := by
  subst hn hv
  exact g.via fun t k => XS.iconst X.here hx rfl hd k
theorem o_bipush (X : Stand p l e R s m args below meth c T locs cells slots) (hx : p.tables.exec = Jvm.exec) {i : Int} {v : Int32} (hd : decode c.code pc = .ok (.bipush i, 2)) (hv : (Int8.ofInt i).toInt32 = v) (hn : pc + 2 = n) (g : Goes p e below s Q K N (T.setTop (mkF m n Ls (.int v :: st)))) : Goes p e below s Q K N (T.setTop (mkF m pc Ls st)) := by
  subst hn hv
  exact g.via fun t k => XS.bipush X.here hx rfl hd k
theorem o_sipush (X : Stand p l e R s m args below meth c T locs cells slots) (hx : p.tables.exec = Jvm.exec) {i : Int} {v : Int32} (hd : decode c.code pc = .ok (.sipush i, 3)) (hv : (Int16.ofInt i).toInt32 = v) (hn : pc + 3 = n) (g : Goes p e below s Q K N (T.setTop (mkF m n Ls (.int v :: st)))) : Goes p e below s Q K N (T.setTop (mkF m pc Ls st)) := by
  subst hn hv
  exact g.via fun t k => XS.sipush X.here hx rfl hd k
theorem o_lconst (X : Stand p l e R s m args below meth c T locs cells slots) (hx : p.tables.exec = Jvm.exec) {j : Fin 2} {v : Int64} (hd : decode c.code pc = .ok (.lconst j, 1)) (hv : Int64.ofNat j = v) (hn : pc + 1 = n) (g : Goes p e below s Q K N (T.setTop (mkF m n Ls (.long v :: st)))) : Goes p e below s Q K N (T.setTop (mkF m pc Ls st)) := by
  subst hn hv
  exact g.via fun t k => XS.lconst X.here hx rfl hd k
theorem o_aconst_null (X : Stand p l e R s m args below meth c T locs cells slots) (hx : p.tables.exec = Jvm.exec)  (hd : decode c.code pc = .ok (.aconst_null, 1)) (hn : pc + 1 = n) (g : Goes p e below s Q K N (T.setTop (mkF m n Ls (.null :: st)))) : Goes p e below s Q K N (T.setTop (mkF m pc Ls st)) := by
  subst hn
  exact g.via fun t k => XS.aconstNull X.here hx rfl hd k
theorem o_ldc (X : Stand p l e R s m args below meth c T locs cells slots) (hx : p.tables.exec = Jvm.exec)  (hZ : Z.Warmed39 s.vm) {own : String} {index : Nat} {v : Int32} (hown : s.vm.findClass own = some m.cls) (w : (Jvm.Cond.constant own index v).before a0 Z = true) (hd : decode c.code pc = .ok (.ldc index, 2)) (hn : pc + 2 = n) (g : Goes p e below s Q K N (T.setTop (mkF m n Ls (.int v :: st)))) : Goes p e below s Q K N (T.setTop (mkF m pc Ls st)) := by
  subst hn
  exact g.via fun t k => X.ldcInt hx hown (mvT hZ w) (g := mkF m pc Ls st) rfl hd t k
theorem o_ldc_w (X : Stand p l e R s m args below meth c T locs cells slots) (hx : p.tables.exec = Jvm.exec)  (hZ : Z.Warmed39 s.vm) {own : String} {index : Nat} {v : Int32} (hown : s.vm.findClass own = some m.cls) (w : (Jvm.Cond.constant own index v).before a0 Z = true) (hd : decode c.code pc = .ok (.ldc_w index, 3)) (hn : pc + 3 = n) (g : Goes p e below s Q K N (T.setTop (mkF m n Ls (.int v :: st)))) : Goes p e below s Q K N (T.setTop (mkF m pc Ls st)) := by
  subst hn
  exact g.via fun t k => X.ldcWInt hx hown (mvT hZ w) (g := mkF m pc Ls st) rfl hd t k
theorem o_ldc2_w (X : Stand p l e R s m args below meth c T locs cells slots) (hx : p.tables.exec = Jvm.exec)  (hZ : Z.Warmed39 s.vm) {own : String} {index : Nat} {v : Int64} (hown : s.vm.findClass own = some m.cls) (w : (Jvm.Cond.constantLong own index v).before a0 Z = true) (hd : decode c.code pc = .ok (.ldc2_w index, 3)) (hn : pc + 3 = n) (g : Goes p e below s Q K N (T.setTop (mkF m n Ls (.long v :: st)))) : Goes p e below s Q K N (T.setTop (mkF m pc Ls st)) := by
  subst hn
  exact g.via fun t k => X.ldc2Long hx hown (mvT hZ w) (g := mkF m pc Ls st) rfl hd t k
theorem o_iadd (X : Stand p l e R s m args below meth c T locs cells slots) (hx : p.tables.exec = Jvm.exec) {x y v : Int32} (hd : decode c.code pc = .ok (.iadd, 1)) (hv : x + y = v) (hn : pc + 1 = n) (g : Goes p e below s Q K N (T.setTop (mkF m n Ls (.int v :: rest)))) : Goes p e below s Q K N (T.setTop (mkF m pc Ls (.int y :: .int x :: rest))) := by
  subst hn hv
  exact g.via fun t k => XS.iadd X.here hx rfl hd rfl k
theorem o_isub (X : Stand p l e R s m args below meth c T locs cells slots) (hx : p.tables.exec = Jvm.exec) {x y v : Int32} (hd : decode c.code pc = .ok (.isub, 1)) (hv : x - y = v) (hn : pc + 1 = n) (g : Goes p e below s Q K N (T.setTop (mkF m n Ls (.int v :: rest)))) : Goes p e below s Q K N (T.setTop (mkF m pc Ls (.int y :: .int x :: rest))) := by
  subst hn hv
  exact g.via fun t k => XS.isub X.here hx rfl hd rfl k
theorem o_imul (X : Stand p l e R s m args below meth c T locs cells slots) (hx : p.tables.exec = Jvm.exec) {x y v : Int32} (hd : decode c.code pc = .ok (.imul, 1)) (hv : x * y = v) (hn : pc + 1 = n) (g : Goes p e below s Q K N (T.setTop (mkF m n Ls (.int v :: rest)))) : Goes p e below s Q K N (T.setTop (mkF m pc Ls (.int y :: .int x :: rest))) := by
  subst hn hv
  exact g.via fun t k => XS.imul X.here hx rfl hd rfl k
theorem o_iand (X : Stand p l e R s m args below meth c T locs cells slots) (hx : p.tables.exec = Jvm.exec) {x y v : Int32} (hd : decode c.code pc = .ok (.iand, 1)) (hv : x &&& y = v) (hn : pc + 1 = n) (g : Goes p e below s Q K N (T.setTop (mkF m n Ls (.int v :: rest)))) : Goes p e below s Q K N (T.setTop (mkF m pc Ls (.int y :: .int x :: rest))) := by
  subst hn hv
  exact g.via fun t k => XS.iand X.here hx rfl hd rfl k
theorem o_ior (X : Stand p l e R s m args below meth c T locs cells slots) (hx : p.tables.exec = Jvm.exec) {x y v : Int32} (hd : decode c.code pc = .ok (.ior, 1)) (hv : x ||| y = v) (hn : pc + 1 = n) (g : Goes p e below s Q K N (T.setTop (mkF m n Ls (.int v :: rest)))) : Goes p e below s Q K N (T.setTop (mkF m pc Ls (.int y :: .int x :: rest))) := by
  subst hn hv
  exact g.via fun t k => XS.ior X.here hx rfl hd rfl k
theorem o_ixor (X : Stand p l e R s m args below meth c T locs cells slots) (hx : p.tables.exec = Jvm.exec) {x y v : Int32} (hd : decode c.code pc = .ok (.ixor, 1)) (hv : x ^^^ y = v) (hn : pc + 1 = n) (g : Goes p e below s Q K N (T.setTop (mkF m n Ls (.int v :: rest)))) : Goes p e below s Q K N (T.setTop (mkF m pc Ls (.int y :: .int x :: rest))) := by
  subst hn hv
  exact g.via fun t k => XS.ixor X.here hx rfl hd rfl k
theorem o_ladd (X : Stand p l e R s m args below meth c T locs cells slots) (hx : p.tables.exec = Jvm.exec) {x y v : Int64} (hd : decode c.code pc = .ok (.ladd, 1)) (hv : x + y = v) (hn : pc + 1 = n) (g : Goes p e below s Q K N (T.setTop (mkF m n Ls (.long v :: rest)))) : Goes p e below s Q K N (T.setTop (mkF m pc Ls (.long y :: .long x :: rest))) := by
  subst hn hv
  exact g.via fun t k => XS.ladd X.here hx rfl hd rfl k
theorem o_lsub (X : Stand p l e R s m args below meth c T locs cells slots) (hx : p.tables.exec = Jvm.exec) {x y v : Int64} (hd : decode c.code pc = .ok (.lsub, 1)) (hv : x - y = v) (hn : pc + 1 = n) (g : Goes p e below s Q K N (T.setTop (mkF m n Ls (.long v :: rest)))) : Goes p e below s Q K N (T.setTop (mkF m pc Ls (.long y :: .long x :: rest))) := by
  subst hn hv
  exact g.via fun t k => XS.lsub X.here hx rfl hd rfl k
theorem o_lmul (X : Stand p l e R s m args below meth c T locs cells slots) (hx : p.tables.exec = Jvm.exec) {x y v : Int64} (hd : decode c.code pc = .ok (.lmul, 1)) (hv : x * y = v) (hn : pc + 1 = n) (g : Goes p e below s Q K N (T.setTop (mkF m n Ls (.long v :: rest)))) : Goes p e below s Q K N (T.setTop (mkF m pc Ls (.long y :: .long x :: rest))) := by
  subst hn hv
  exact g.via fun t k => XS.lmul X.here hx rfl hd rfl k
theorem o_land (X : Stand p l e R s m args below meth c T locs cells slots) (hx : p.tables.exec = Jvm.exec) {x y v : Int64} (hd : decode c.code pc = .ok (.land, 1)) (hv : x &&& y = v) (hn : pc + 1 = n) (g : Goes p e below s Q K N (T.setTop (mkF m n Ls (.long v :: rest)))) : Goes p e below s Q K N (T.setTop (mkF m pc Ls (.long y :: .long x :: rest))) := by
  subst hn hv
  exact g.via fun t k => XS.land X.here hx rfl hd rfl k
theorem o_lor (X : Stand p l e R s m args below meth c T locs cells slots) (hx : p.tables.exec = Jvm.exec) {x y v : Int64} (hd : decode c.code pc = .ok (.lor, 1)) (hv : x ||| y = v) (hn : pc + 1 = n) (g : Goes p e below s Q K N (T.setTop (mkF m n Ls (.long v :: rest)))) : Goes p e below s Q K N (T.setTop (mkF m pc Ls (.long y :: .long x :: rest))) := by
  subst hn hv
  exact g.via fun t k => XS.lor X.here hx rfl hd rfl k
theorem o_lxor (X : Stand p l e R s m args below meth c T locs cells slots) (hx : p.tables.exec = Jvm.exec) {x y v : Int64} (hd : decode c.code pc = .ok (.lxor, 1)) (hv : x ^^^ y = v) (hn : pc + 1 = n) (g : Goes p e below s Q K N (T.setTop (mkF m n Ls (.long v :: rest)))) : Goes p e below s Q K N (T.setTop (mkF m pc Ls (.long y :: .long x :: rest))) := by
  subst hn hv
  exact g.via fun t k => XS.lxor X.here hx rfl hd rfl k
theorem o_idiv (X : Stand p l e R s m args below meth c T locs cells slots) (hx : p.tables.exec = Jvm.exec) {x y v : Int32} (hd : decode c.code pc = .ok (.idiv, 1)) (hy : y ≠ 0) (hv : x / y = v) (hn : pc + 1 = n) (g : Goes p e below s Q K N (T.setTop (mkF m n Ls (.int v :: rest)))) : Goes p e below s Q K N (T.setTop (mkF m pc Ls (.int y :: .int x :: rest))) := by
  subst hn hv
  exact g.via fun t k => XS.idiv X.here hx rfl hd rfl hy k
theorem o_irem (X : Stand p l e R s m args below meth c T locs cells slots) (hx : p.tables.exec = Jvm.exec) {x y v : Int32} (hd : decode c.code pc = .ok (.irem, 1)) (hy : y ≠ 0) (hv : x % y = v) (hn : pc + 1 = n) (g : Goes p e below s Q K N (T.setTop (mkF m n Ls (.int v :: rest)))) : Goes p e below s Q K N (T.setTop (mkF m pc Ls (.int y :: .int x :: rest))) := by
  subst hn hv
  exact g.via fun t k => iremM X hx (g := mkF m pc Ls _) rfl hd rfl hy k
theorem o_ldiv (X : Stand p l e R s m args below meth c T locs cells slots) (hx : p.tables.exec = Jvm.exec) {x y v : Int64} (hd : decode c.code pc = .ok (.ldiv, 1)) (hy : y ≠ 0) (hv : x / y = v) (hn : pc + 1 = n) (g : Goes p e below s Q K N (T.setTop (mkF m n Ls (.long v :: rest)))) : Goes p e below s Q K N (T.setTop (mkF m pc Ls (.long y :: .long x :: rest))) := by
  subst hn hv
  exact g.via fun t k => XS.ldiv X.here hx rfl hd rfl hy k
theorem o_lrem (X : Stand p l e R s m args below meth c T locs cells slots) (hx : p.tables.exec = Jvm.exec) {x y v : Int64} (hd : decode c.code pc = .ok (.lrem, 1)) (hy : y ≠ 0) (hv : x % y = v) (hn : pc + 1 = n) (g : Goes p e below s Q K N (T.setTop (mkF m n Ls (.long v :: rest)))) : Goes p e below s Q K N (T.setTop (mkF m pc Ls (.long y :: .long x :: rest))) := by
  subst hn hv
  exact g.via fun t k => XS.lrem X.here hx rfl hd rfl hy (by rw [lrem_mod]; exact k)
theorem o_ishl (X : Stand p l e R s m args below meth c T locs cells slots) (hx : p.tables.exec = Jvm.exec) {x y v : Int32} (hd : decode c.code pc = .ok (.ishl, 1)) (hv : x <<< (y &&& 31) = v) (hn : pc + 1 = n) (g : Goes p e below s Q K N (T.setTop (mkF m n Ls (.int v :: rest)))) : Goes p e below s Q K N (T.setTop (mkF m pc Ls (.int y :: .int x :: rest))) := by
  subst hn hv
  exact g.via fun t k => XS.ishl X.here hx rfl hd rfl k
theorem o_ishr (X : Stand p l e R s m args below meth c T locs cells slots) (hx : p.tables.exec = Jvm.exec) {x y v : Int32} (hd : decode c.code pc = .ok (.ishr, 1)) (hv : x >>> (y &&& 31) = v) (hn : pc + 1 = n) (g : Goes p e below s Q K N (T.setTop (mkF m n Ls (.int v :: rest)))) : Goes p e below s Q K N (T.setTop (mkF m pc Ls (.int y :: .int x :: rest))) := by
  subst hn hv
  exact g.via fun t k => XS.ishr X.here hx rfl hd rfl k
theorem o_iushr (X : Stand p l e R s m args below meth c T locs cells slots) (hx : p.tables.exec = Jvm.exec) {x y v : Int32} (hd : decode c.code pc = .ok (.iushr, 1)) (hv : (x.toUInt32 >>> (y &&& 31).toUInt32).toInt32 = v) (hn : pc + 1 = n) (g : Goes p e below s Q K N (T.setTop (mkF m n Ls (.int v :: rest)))) : Goes p e below s Q K N (T.setTop (mkF m pc Ls (.int y :: .int x :: rest))) := by
  subst hn hv
  exact g.via fun t k => XS.iushr X.here hx rfl hd rfl k
theorem o_lshl (X : Stand p l e R s m args below meth c T locs cells slots) (hx : p.tables.exec = Jvm.exec) {x v : Int64} {y : Int32} (hd : decode c.code pc = .ok (.lshl, 1)) (hv : x <<< (y &&& 0x3f).toInt64 = v) (hn : pc + 1 = n) (g : Goes p e below s Q K N (T.setTop (mkF m n Ls (.long v :: rest)))) : Goes p e below s Q K N (T.setTop (mkF m pc Ls (.int y :: .long x :: rest))) := by
  subst hn hv
  exact g.via fun t k => XS.lshl X.here hx rfl hd rfl k
theorem o_lshr (X : Stand p l e R s m args below meth c T locs cells slots) (hx : p.tables.exec = Jvm.exec) {x v : Int64} {y : Int32} (hd : decode c.code pc = .ok (.lshr, 1)) (hv : x >>> (y &&& 0x3f).toInt64 = v) (hn : pc + 1 = n) (g : Goes p e below s Q K N (T.setTop (mkF m n Ls (.long v :: rest)))) : Goes p e below s Q K N (T.setTop (mkF m pc Ls (.int y :: .long x :: rest))) := by
  subst hn hv
  exact g.via fun t k => XS.lshr X.here hx rfl hd rfl k
theorem o_lushr (X : Stand p l e R s m args below meth c T locs cells slots) (hx : p.tables.exec = Jvm.exec) {x v : Int64} {y : Int32} (hd : decode c.code pc = .ok (.lushr, 1)) (hv : (x.toUInt64 >>> (y &&& 0x3f).toInt64.toUInt64).toInt64 = v) (hn : pc + 1 = n) (g : Goes p e below s Q K N (T.setTop (mkF m n Ls (.long v :: rest)))) : Goes p e below s Q K N (T.setTop (mkF m pc Ls (.int y :: .long x :: rest))) := by
  subst hn hv
  exact g.via fun t k => XS.lushr X.here hx rfl hd rfl k
theorem o_i2l (X : Stand p l e R s m args below meth c T locs cells slots) (hx : p.tables.exec = Jvm.exec) {x : Int32} {v : Int64} (hd : decode c.code pc = .ok (.i2l, 1)) (hv : x.toInt64 = v) (hn : pc + 1 = n) (g : Goes p e below s Q K N (T.setTop (mkF m n Ls (.long v :: rest)))) : Goes p e below s Q K N (T.setTop (mkF m pc Ls (.int x :: rest))) := by
  subst hn hv
  exact g.via fun t k => XS.i2l X.here hx rfl hd rfl k
theorem o_l2i (X : Stand p l e R s m args below meth c T locs cells slots) (hx : p.tables.exec = Jvm.exec) {x : Int64} {v : Int32} (hd : decode c.code pc = .ok (.l2i, 1)) (hv : x.toInt32 = v) (hn : pc + 1 = n) (g : Goes p e below s Q K N (T.setTop (mkF m n Ls (.int v :: rest)))) : Goes p e below s Q K N (T.setTop (mkF m pc Ls (.long x :: rest))) := by
  subst hn hv
  exact g.via fun t k => XS.l2i X.here hx rfl hd rfl k
theorem o_i2b (X : Stand p l e R s m args below meth c T locs cells slots) (hx : p.tables.exec = Jvm.exec) {x : Int32} {v : Int32} (hd : decode c.code pc = .ok (.i2b, 1)) (hv : x.toInt8.toInt32 = v) (hn : pc + 1 = n) (g : Goes p e below s Q K N (T.setTop (mkF m n Ls (.int v :: rest)))) : Goes p e below s Q K N (T.setTop (mkF m pc Ls (.int x :: rest))) := by
  subst hn hv
  exact g.via fun t k => XS.i2b X.here hx rfl hd rfl k
theorem o_i2c (X : Stand p l e R s m args below meth c T locs cells slots) (hx : p.tables.exec = Jvm.exec) {x : Int32} {v : Int32} (hd : decode c.code pc = .ok (.i2c, 1)) (hv : x.toUInt32.toUInt16.toUInt32.toInt32 = v) (hn : pc + 1 = n) (g : Goes p e below s Q K N (T.setTop (mkF m n Ls (.int v :: rest)))) : Goes p e below s Q K N (T.setTop (mkF m pc Ls (.int x :: rest))) := by
  subst hn hv
  exact g.via fun t k => XS.i2c X.here hx rfl hd rfl k
theorem o_i2s (X : Stand p l e R s m args below meth c T locs cells slots) (hx : p.tables.exec = Jvm.exec) {x : Int32} {v : Int32} (hd : decode c.code pc = .ok (.i2s, 1)) (hv : x.toInt16.toInt32 = v) (hn : pc + 1 = n) (g : Goes p e below s Q K N (T.setTop (mkF m n Ls (.int v :: rest)))) : Goes p e below s Q K N (T.setTop (mkF m pc Ls (.int x :: rest))) := by
  subst hn hv
  exact g.via fun t k => XS.i2s X.here hx rfl hd rfl k
theorem o_ineg (X : Stand p l e R s m args below meth c T locs cells slots) (hx : p.tables.exec = Jvm.exec) {x : Int32} {v : Int32} (hd : decode c.code pc = .ok (.ineg, 1)) (hv : -x = v) (hn : pc + 1 = n) (g : Goes p e below s Q K N (T.setTop (mkF m n Ls (.int v :: rest)))) : Goes p e below s Q K N (T.setTop (mkF m pc Ls (.int x :: rest))) := by
  subst hn hv
  exact g.via fun t k => XS.ineg X.here hx rfl hd rfl k
theorem o_lneg (X : Stand p l e R s m args below meth c T locs cells slots) (hx : p.tables.exec = Jvm.exec) {x : Int64} {v : Int64} (hd : decode c.code pc = .ok (.lneg, 1)) (hv : -x = v) (hn : pc + 1 = n) (g : Goes p e below s Q K N (T.setTop (mkF m n Ls (.long v :: rest)))) : Goes p e below s Q K N (T.setTop (mkF m pc Ls (.long x :: rest))) := by
  subst hn hv
  exact g.via fun t k => XS.lneg X.here hx rfl hd rfl k
theorem o_lcmp (X : Stand p l e R s m args below meth c T locs cells slots) (hx : p.tables.exec = Jvm.exec) {x y : Int64} (hd : decode c.code pc = .ok (.lcmp, 1)) (hn : pc + 1 = n) (g : Goes p e below s Q K N (T.setTop (mkF m n Ls (.int (XT.cmpL x y) :: rest)))) : Goes p e below s Q K N (T.setTop (mkF m pc Ls (.long y :: .long x :: rest))) := by
  subst hn
  exact g.via fun t k => XT.lcmp X.here hx rfl hd rfl k
theorem o_dup (X : Stand p l e R s m args below meth c T locs cells slots) (hx : p.tables.exec = Jvm.exec) {v : Value} (hd : decode c.code pc = .ok (.dup, 1)) (hv : v.category = 1) (hn : pc + 1 = n) (g : Goes p e below s Q K N (T.setTop (mkF m n Ls (v :: v :: rest)))) : Goes p e below s Q K N (T.setTop (mkF m pc Ls (v :: rest))) := by
  subst hn
  exact g.via fun t k => XS.dup X.here hx rfl hd rfl hv k
theorem o_dup_x1 (X : Stand p l e R s m args below meth c T locs cells slots) (hx : p.tables.exec = Jvm.exec) {v w : Value} (hd : decode c.code pc = .ok (.dup_x1, 1)) (hv : v.category = 1) (hw : w.category = 1) (hn : pc + 1 = n) (g : Goes p e below s Q K N (T.setTop (mkF m n Ls (v :: w :: v :: rest)))) : Goes p e below s Q K N (T.setTop (mkF m pc Ls (v :: w :: rest))) := by
  subst hn
  exact g.via fun t k => XS.dupX1 X.here hx rfl hd rfl hv hw k
theorem o_dup2 (X : Stand p l e R s m args below meth c T locs cells slots) (hx : p.tables.exec = Jvm.exec) {v w : Value} (hd : decode c.code pc = .ok (.dup2, 1)) (hv : v.category = 1) (hw : w.category = 1) (hn : pc + 1 = n) (g : Goes p e below s Q K N (T.setTop (mkF m n Ls (v :: w :: v :: w :: rest)))) : Goes p e below s Q K N (T.setTop (mkF m pc Ls (v :: w :: rest))) := by
  subst hn
  exact g.via fun t k => XT.dup2 X.here hx rfl hd rfl hv hw k
theorem o_pop (X : Stand p l e R s m args below meth c T locs cells slots) (hx : p.tables.exec = Jvm.exec) {v : Value} (hd : decode c.code pc = .ok (.pop, 1)) (hv : v.category = 1) (hn : pc + 1 = n) (g : Goes p e below s Q K N (T.setTop (mkF m n Ls rest))) : Goes p e below s Q K N (T.setTop (mkF m pc Ls (v :: rest))) := by
  subst hn
  exact g.via fun t k => XS.pop X.here hx rfl hd rfl hv k
theorem o_goto (X : Stand p l e R s m args below meth c T locs cells slots) (hx : p.tables.exec = Jvm.exec) {o : Int} (hd : decode c.code pc = .ok (.goto o, 3)) (ho : 0 ≤ (pc : Int) + o) (hn : ((pc : Int) + o).toNat = n) (g : Goes p e below s Q K N (T.setTop (mkF m n Ls st))) : Goes p e below s Q K N (T.setTop (mkF m pc Ls st)) := by
  exact g.via fun t k => XS.goto X.here hx rfl rfl hd ho hn k
theorem o_ifY (X : Stand p l e R s m args below meth c T locs cells slots) (hx : p.tables.exec = Jvm.exec) {cd : ClassFile.Cond} {x : Int32} {o : Int} (hd : decode c.code pc = .ok (.ifCond cd o, 3)) (hc : ifCond.holds cd x = true) (ho : 0 ≤ (pc : Int) + o) (hn : ((pc : Int) + o).toNat = n) (g : Goes p e below s Q K N (T.setTop (mkF m n Ls rest))) : Goes p e below s Q K N (T.setTop (mkF m pc Ls (.int x :: rest))) := by
  exact g.via fun t k => XS.ifYes X.here hx rfl rfl hd rfl hc ho hn k
theorem o_ifN (X : Stand p l e R s m args below meth c T locs cells slots) (hx : p.tables.exec = Jvm.exec) {cd : ClassFile.Cond} {x : Int32} {o : Int} (hd : decode c.code pc = .ok (.ifCond cd o, 3)) (hc : ifCond.holds cd x = false) (hn : pc + 3 = n) (g : Goes p e below s Q K N (T.setTop (mkF m n Ls rest))) : Goes p e below s Q K N (T.setTop (mkF m pc Ls (.int x :: rest))) := by
  subst hn
  exact g.via fun t k => XS.ifNo X.here hx rfl hd rfl hc k
theorem o_icmpY (X : Stand p l e R s m args below meth c T locs cells slots) (hx : p.tables.exec = Jvm.exec) {cd : ClassFile.Cond} {x y : Int32} {o : Int} (hd : decode c.code pc = .ok (.if_icmp cd o, 3)) (hc : if_icmp.holds cd x y = true) (ho : 0 ≤ (pc : Int) + o) (hn : ((pc : Int) + o).toNat = n) (g : Goes p e below s Q K N (T.setTop (mkF m n Ls rest))) : Goes p e below s Q K N (T.setTop (mkF m pc Ls (.int y :: .int x :: rest))) := by
  exact g.via fun t k => XS.icmpYes X.here hx rfl rfl hd rfl hc ho hn k
theorem o_icmpN (X : Stand p l e R s m args below meth c T locs cells slots) (hx : p.tables.exec = Jvm.exec) {cd : ClassFile.Cond} {x y : Int32} {o : Int} (hd : decode c.code pc = .ok (.if_icmp cd o, 3)) (hc : if_icmp.holds cd x y = false) (hn : pc + 3 = n) (g : Goes p e below s Q K N (T.setTop (mkF m n Ls rest))) : Goes p e below s Q K N (T.setTop (mkF m pc Ls (.int y :: .int x :: rest))) := by
  subst hn
  exact g.via fun t k => XS.icmpNo X.here hx rfl hd rfl hc k
theorem o_ifnullY (X : Stand p l e R s m args below meth c T locs cells slots) (hx : p.tables.exec = Jvm.exec) {o : Int} (hd : decode c.code pc = .ok (.ifnull o, 3)) (ho : 0 ≤ (pc : Int) + o) (hn : ((pc : Int) + o).toNat = n) (g : Goes p e below s Q K N (T.setTop (mkF m n Ls rest))) : Goes p e below s Q K N (T.setTop (mkF m pc Ls (.null :: rest))) := by
  exact g.via fun t k => XS.ifnullYes X.here hx rfl rfl hd rfl ho hn k
theorem o_ifnullN (X : Stand p l e R s m args below meth c T locs cells slots) (hx : p.tables.exec = Jvm.exec) {o : Int} {a : Addr} (hd : decode c.code pc = .ok (.ifnull o, 3)) (hn : pc + 3 = n) (g : Goes p e below s Q K N (T.setTop (mkF m n Ls rest))) : Goes p e below s Q K N (T.setTop (mkF m pc Ls (.ref a :: rest))) := by
  subst hn
  exact g.via fun t k => XS.ifnullNo X.here hx rfl hd rfl k
theorem o_ifnonnullY (X : Stand p l e R s m args below meth c T locs cells slots) (hx : p.tables.exec = Jvm.exec) {o : Int} {a : Addr} (hd : decode c.code pc = .ok (.ifnonnull o, 3)) (ho : 0 ≤ (pc : Int) + o) (hn : ((pc : Int) + o).toNat = n) (g : Goes p e below s Q K N (T.setTop (mkF m n Ls rest))) : Goes p e below s Q K N (T.setTop (mkF m pc Ls (.ref a :: rest))) := by
  exact g.via fun t k => XS.ifnonnullYes X.here hx rfl rfl hd rfl ho hn k
theorem o_ifnonnullN (X : Stand p l e R s m args below meth c T locs cells slots) (hx : p.tables.exec = Jvm.exec) {o : Int} (hd : decode c.code pc = .ok (.ifnonnull o, 3)) (hn : pc + 3 = n) (g : Goes p e below s Q K N (T.setTop (mkF m n Ls rest))) : Goes p e below s Q K N (T.setTop (mkF m pc Ls (.null :: rest))) := by
  subst hn
  exact g.via fun t k => XS.ifnonnullNo X.here hx rfl hd rfl k
theorem o_acmp (X : Stand p l e R s m args below meth c T locs cells slots) (hx : p.tables.exec = Jvm.exec) {cd : ACond} {x y : Value} {o : Int} {same : Bool} (hd : decode c.code pc = .ok (.if_acmp cd o, 3)) (h1 : x.isRef = true) (h2 : y.isRef = true) (hq : decide (x = y) = same) (ho : 0 ≤ (pc : Int) + o) (hn : n = if acV cd same = true then ((pc : Int) + o).toNat else pc + 3) (g : Goes p e below s Q K N (T.setTop (mkF m n Ls rest))) : Goes p e below s Q K N (T.setTop (mkF m pc Ls (y :: x :: rest))) := by
  exact g.via fun t k => Jvm.RoadKit.acmp X hx (g := mkF m pc Ls _) rfl h1 h2 rfl hd rfl hq ho hn k
/-! the heap -/
theorem o_getfield (X : Stand p l e R s m args below meth c T locs cells slots) (hx : p.tables.exec = Jvm.exec) (hZ : Z.Warmed39 s.vm) {own R0 O nm d host : String} {index : Nat} (hown : s.vm.findClass own = some m.cls) (w : (Jvm.Cond.fieldLink own index R0 nm d).before a0 Z = true ∨ (Jvm.Cond.fieldLinkNest own index R0 nm d host).before a0 Z = true) (via : Via Z R0 O nm d) (eT : T.heap = h) {a : Addr} {v : Value} (F : Fld Z h a O nm d v)
    (hd : decode c.code pc = .ok (.getfield index, 3)) (hn : pc + 3 = n) (k : ∀ T', Stand p l e R s m args below meth c T' locs cells slots → T'.heap = h → Goes p e below s Q K N (T'.setTop (mkF m n Ls (v :: rest)))) : Goes p e below s Q K N (T.setTop (mkF m pc Ls (.ref a :: rest))) := by
  subst hn
  obtain ⟨T', X', e', st'⟩ := getF X hx hZ hown w via eT F (g := mkF m pc Ls (.ref a :: rest)) rfl rfl hd
  exact (k T' X' e').via st'
theorem o_putfield (X : Stand p l e R s m args below meth c T locs cells slots) (hx : p.tables.exec = Jvm.exec) (hZ : Z.Warmed39 s.vm) {own R0 O nm d host C : String} {index kk : Nat} {ty : FieldType} (hown : s.vm.findClass own = some m.cls) (w : (Jvm.Cond.fieldLink own index R0 nm d).before a0 Z = true ∨ (Jvm.Cond.fieldLinkNest own index R0 nm d host).before a0 Z = true) (via : Via Z R0 O nm d) (eT : T.heap = h) {a : Addr} {v old : Value} (F : Fld Z h a O nm d old) (E : Exa Z h a C)
    (L : (Jvm.Cond.lays C O nm d).before a0 Z = true ∨ ((Jvm.Cond.laysFinal C O nm d).before a0 Z = true ∧ own = O ∧ meth.name = "<init>")) (wi : (Jvm.Cond.instantiable C kk).before a0 Z = true) (hty : parseFieldDescriptor d = some ty) (hnn : narrow ty v = v) (hf : fits ty v = true) (hd : decode c.code pc = .ok (.putfield index, 3)) (hn : pc + 3 = n)
    (k : ∀ T' h', Stand p l e R s m args below meth c T' (locs ++ [⟨a, Jvm.RoadKit.slotOf Z O nm d⟩]) cells slots → T'.heap = h' → Wr h h' a (Jvm.RoadKit.slotOf Z O nm d) v → Fld Z h' a O nm d v → Exa Z h' a C → Goes p e below s Q K N (T'.setTop (mkF m n Ls rest))) : Goes p e below s Q K N (T.setTop (mkF m pc Ls (v :: .ref a :: rest))) := by
  subst hn
  obtain ⟨T', h', X', e', W, st'⟩ := putF X hx hZ hown w via eT F E L wi hty hnn hf (g := mkF m pc Ls (v :: .ref a :: rest)) rfl rfl hd
  exact (k T' h' X' e' W (F.same W) (E.wr W)).via st'
theorem o_getstatic (X : Stand p l e R s m args below meth c T locs cells slots) (hx : p.tables.exec = Jvm.exec) (hZ : Z.Warmed39 s.vm) {own R0 O nm d host : String} {index : Nat} (hown : s.vm.findClass own = some m.cls) (w : (Jvm.Cond.fieldLink own index R0 nm d).before a0 Z = true ∨ (Jvm.Cond.fieldLinkNest own index R0 nm d host).before a0 Z = true) (via : Via Z R0 O nm d) (eT : T.heap = h) {v : Value} (F : Sta Z h O nm d v)
    (hd : decode c.code pc = .ok (.getstatic index, 3)) (hn : pc + 3 = n) (k : ∀ T', Stand p l e R s m args below meth c T' locs cells slots → T'.heap = h → Goes p e below s Q K N (T'.setTop (mkF m n Ls (v :: st)))) : Goes p e below s Q K N (T.setTop (mkF m pc Ls st)) := by
  subst hn
  obtain ⟨T', X', e', st'⟩ := getS2 X hx hZ hown w via eT F (g := mkF m pc Ls st) rfl hd
  exact (k T' X' e').via st'
theorem o_new (X : Stand p l e R s m args below meth c T locs cells slots) (hx : p.tables.exec = Jvm.exec) (hZ : Z.Warmed39 s.vm) {own C : String} {index kk : Nat} (hown : s.vm.findClass own = some m.cls) (w : (Jvm.Cond.classLink own index C).before a0 Z = true) (wi : (Jvm.Cond.instantiable C kk).before a0 Z = true) (wz : (Jvm.Cond.initialized C).before a0 Z = true) (eT : T.heap = h)
    (hd : decode c.code pc = .ok (.new index, 3)) (hc : cells + 1 ≤ R.cells) (hs : slots + kk ≤ R.slots) (hn : pc + 3 = n)
    (k : ∀ T' h' a, Stand p l e R s m args below meth c T' locs (cells + 1) (slots + kk) → T'.heap = h' → a = h.size → Ext h h' → Exa Z h' a C → (∀ {O nm d : String} {ty : FieldType}, Laid Z a0 C O nm d → parseFieldDescriptor d = some ty → Fld Z h' a O nm d (defaultValue ty)) → Goes p e below s Q K N (T'.setTop (mkF m n Ls (.ref a :: st)))) : Goes p e below s Q K N (T.setTop (mkF m pc Ls st)) := by
  subst hn
  obtain ⟨T', h', X', e', E, A, D, -, st'⟩ := newO X hx hZ hown w wi wz eT (g := mkF m pc Ls st) rfl hd hc hs
  exact (k T' h' _ X' e' rfl E A D).via st'
theorem o_newarray (X : Stand p l e R s m args below meth c T locs cells slots) (hx : p.tables.exec = Jvm.exec) (hZ : Z.Warmed39 s.vm) {aty : ArrayType} (w : (Jvm.Cond.arrayClass (newarray.typeOf aty)).before a0 Z = true) (eT : T.heap = h) {z : Int32} (hd : decode c.code pc = .ok (.newarray aty, 2)) (hz : ¬ z < 0) (cap : Nat) (hcap : z.toNatClampNeg ≤ cap) (hb : cap * 8 ≤ 536870912) (hc : cells + 1 ≤ R.cells) (hs : slots + cap ≤ R.slots) (hn : pc + 2 = n)
    (k : ∀ T' h' a cA, Stand p l e R s m args below meth c T' locs (cells + 1) (slots + cap) → T'.heap = h' → a = h.size → Ext h h' → Arv Z h' a cA (newarray.typeOf aty) z [] (defaultValue (newarray.typeOf aty)) → Goes p e below s Q K N (T'.setTop (mkF m n Ls (.ref a :: rest)))) : Goes p e below s Q K N (T.setTop (mkF m pc Ls (.int z :: rest))) := by
  subst hn
  obtain ⟨T', h', cA, X', e', E, A, st'⟩ := newP X hx hZ w eT (g := mkF m pc Ls (.int z :: rest)) rfl hd rfl hz hcap hb hc hs
  exact (k T' h' _ cA X' e' rfl E (Arv.new A hz)).via st'
theorem o_arraylength (X : Stand p l e R s m args below meth c T locs cells slots) (hx : p.tables.exec = Jvm.exec) (hZ : Z.Warmed39 s.vm) (eT : T.heap = h) {a : Addr} {k : ClassId} {ty : FieldType} {z : Int32} {vs : List Value} {dv : Value} (V : Arv Z h a k ty z vs dv) (hd : decode c.code pc = .ok (.arraylength, 1)) (hn : pc + 1 = n) (g : Goes p e below s Q K N (T.setTop (mkF m n Ls (.int z :: rest)))) : Goes p e below s Q K N (T.setTop (mkF m pc Ls (.ref a :: rest))) := by
  subst hn
  obtain ⟨cl, A, -, S, M, -, -⟩ := V
  refine g.via fun t k => X.arraylength hx (by rw [eT]; exact A.1) (State.isArrayOf_alike hZ.alike A.2.1) (g := mkF m pc Ls (.ref a :: rest)) rfl rfl hd t ?_
  rw [len_of S M]; exact k
theorem o_iaload (X : Stand p l e R s m args below meth c T locs cells slots) (hx : p.tables.exec = Jvm.exec) (hZ : Z.Warmed39 s.vm) (eT : T.heap = h) {a : Addr} {k : ClassId} {z j : Int32} {vs : List Value} {dv v : Value} (V : Arv Z h a k .int z vs dv) (i : Nat) (hi : j.toNatClampNeg = i) (hj : ¬ j < 0 ∧ j < z) (hv : vs.getD i dv = v) (hd : decode c.code pc = .ok (.iaload, 1)) (hn : pc + 1 = n) (g : Goes p e below s Q K N (T.setTop (mkF m n Ls (v :: rest)))) : Goes p e below s Q K N (T.setTop (mkF m pc Ls (.int j :: .ref a :: rest))) := by
  subst hn hi
  obtain ⟨cl, A, -, S, M, H, -⟩ := V
  exact g.via fun t k => X.iaload hx (by rw [eT]; exact A.1) (State.isArrayOf_alike hZ.alike A.2.1) A.2.2 (inb_of S hj) (Has.at H (inb_of S hj) hv) (g := mkF m pc Ls (.int j :: .ref a :: rest)) rfl rfl hd t k
theorem o_laload (X : Stand p l e R s m args below meth c T locs cells slots) (hx : p.tables.exec = Jvm.exec) (hZ : Z.Warmed39 s.vm) (eT : T.heap = h) {a : Addr} {k : ClassId} {z j : Int32} {vs : List Value} {dv v : Value} (V : Arv Z h a k .long z vs dv) (i : Nat) (hi : j.toNatClampNeg = i) (hj : ¬ j < 0 ∧ j < z) (hv : vs.getD i dv = v) (hd : decode c.code pc = .ok (.laload, 1)) (hn : pc + 1 = n) (g : Goes p e below s Q K N (T.setTop (mkF m n Ls (v :: rest)))) : Goes p e below s Q K N (T.setTop (mkF m pc Ls (.int j :: .ref a :: rest))) := by
  subst hn hi
  obtain ⟨cl, A, -, S, M, H, -⟩ := V
  exact g.via fun t k => X.laload hx (by rw [eT]; exact A.1) (State.isArrayOf_alike hZ.alike A.2.1) A.2.2 (inb_of S hj) (Has.at H (inb_of S hj) hv) (g := mkF m pc Ls (.int j :: .ref a :: rest)) rfl rfl hd t k
theorem o_baload (X : Stand p l e R s m args below meth c T locs cells slots) (hx : p.tables.exec = Jvm.exec) (hZ : Z.Warmed39 s.vm) (eT : T.heap = h) {a : Addr} {k : ClassId} {z j : Int32} {vs : List Value} {dv v : Value} (V : Arv Z h a k .byte z vs dv) (i : Nat) (hi : j.toNatClampNeg = i) (hj : ¬ j < 0 ∧ j < z) (hv : vs.getD i dv = v) (hd : decode c.code pc = .ok (.baload, 1)) (hn : pc + 1 = n) (g : Goes p e below s Q K N (T.setTop (mkF m n Ls (v :: rest)))) : Goes p e below s Q K N (T.setTop (mkF m pc Ls (.int j :: .ref a :: rest))) := by
  subst hn hi
  obtain ⟨cl, A, -, S, M, H, -⟩ := V
  exact g.via fun t k => X.baloadBytes hx (by rw [eT]; exact A.1) (State.isArrayOf_alike hZ.alike A.2.1) A.2.2 (inb_of S hj) (Has.at H (inb_of S hj) hv) (g := mkF m pc Ls (.int j :: .ref a :: rest)) rfl rfl hd t k
theorem o_baloadZ (X : Stand p l e R s m args below meth c T locs cells slots) (hx : p.tables.exec = Jvm.exec) (hZ : Z.Warmed39 s.vm) (eT : T.heap = h) {a : Addr} {k : ClassId} {z j : Int32} {vs : List Value} {dv v : Value} (V : Arv Z h a k .boolean z vs dv) (i : Nat) (hi : j.toNatClampNeg = i) (hj : ¬ j < 0 ∧ j < z) (hv : vs.getD i dv = v) (hd : decode c.code pc = .ok (.baload, 1)) (hn : pc + 1 = n) (g : Goes p e below s Q K N (T.setTop (mkF m n Ls (v :: rest)))) : Goes p e below s Q K N (T.setTop (mkF m pc Ls (.int j :: .ref a :: rest))) := by
  subst hn hi
  obtain ⟨cl, A, -, S, M, H, -⟩ := V
  exact g.via fun t k => X.baloadBooleans hx (by rw [eT]; exact A.1) (State.isArrayOf_alike hZ.alike A.2.1) A.2.2 (inb_of S hj) (Has.at H (inb_of S hj) hv) (g := mkF m pc Ls (.int j :: .ref a :: rest)) rfl rfl hd t k
theorem o_aaload (X : Stand p l e R s m args below meth c T locs cells slots) (hx : p.tables.exec = Jvm.exec) (hZ : Z.Warmed39 s.vm) (eT : T.heap = h) {a : Addr} {k : ClassId} {ty : FieldType} {z j : Int32} {vs : List Value} {dv v : Value} (V : Arv Z h a k ty z vs dv) (hty : ty.isReference = true) (i : Nat) (hi : j.toNatClampNeg = i) (hj : ¬ j < 0 ∧ j < z) (hv : vs.getD i dv = v) (hd : decode c.code pc = .ok (.aaload, 1)) (hn : pc + 1 = n) (g : Goes p e below s Q K N (T.setTop (mkF m n Ls (v :: rest)))) : Goes p e below s Q K N (T.setTop (mkF m pc Ls (.int j :: .ref a :: rest))) := by
  subst hn hi
  obtain ⟨cl, A, -, S, M, H, -⟩ := V
  exact g.via fun t k => X.aaload hx (by rw [eT]; exact A.1) (State.isArrayOf_alike hZ.alike A.2.1) hty A.2.2 (inb_of S hj) (Has.at H (inb_of S hj) hv) (g := mkF m pc Ls (.int j :: .ref a :: rest)) rfl rfl hd t k
theorem o_iastore (X : Stand p l e R s m args below meth c T locs cells slots) (hx : p.tables.exec = Jvm.exec) (hZ : Z.Warmed39 s.vm) (eT : T.heap = h) {a : Addr} {k : ClassId} {z j : Int32} {x : Int32} {vs vs' : List Value} {dv w : Value} (V : Arv Z h a k .int z vs dv) (i : Nat) (hi : j.toNatClampNeg = i) (hj : ¬ j < 0 ∧ j < z) (hlen : i < vs.length) (hw : (.int x) = w) (hvs : vs.set i w = vs') (hd : decode c.code pc = .ok (.iastore, 1)) (hn : pc + 1 = n)
    (g : ∀ T' h', Stand p l e R s m args below meth c T' (locs ++ [⟨a, j.toNatClampNeg⟩]) cells slots → T'.heap = h' → Wr h h' a j.toNatClampNeg w → Arv Z h' a k .int z vs' dv → Goes p e below s Q K N (T'.setTop (mkF m n Ls rest))) : Goes p e below s Q K N (T.setTop (mkF m pc Ls (.int x :: .int j :: .ref a :: rest))) := by
  subst hn hvs hw
  obtain ⟨cl, A, q1, S, M, H, G⟩ := V
  obtain ⟨T', h', X', e', W, st'⟩ := stI X hx hZ eT A (j := j) (inb_of S hj) (g := mkF m pc Ls (.int x :: .int j :: .ref a :: rest)) rfl rfl hd
  exact (g T' h' X' e' W (Arv.set A q1 S M H G rfl W i hi hlen)).via st'
theorem o_lastore (X : Stand p l e R s m args below meth c T locs cells slots) (hx : p.tables.exec = Jvm.exec) (hZ : Z.Warmed39 s.vm) (eT : T.heap = h) {a : Addr} {k : ClassId} {z j : Int32} {x : Int64} {vs vs' : List Value} {dv w : Value} (V : Arv Z h a k .long z vs dv) (i : Nat) (hi : j.toNatClampNeg = i) (hj : ¬ j < 0 ∧ j < z) (hlen : i < vs.length) (hw : (.long x) = w) (hvs : vs.set i w = vs') (hd : decode c.code pc = .ok (.lastore, 1)) (hn : pc + 1 = n)
    (g : ∀ T' h', Stand p l e R s m args below meth c T' (locs ++ [⟨a, j.toNatClampNeg⟩]) cells slots → T'.heap = h' → Wr h h' a j.toNatClampNeg w → Arv Z h' a k .long z vs' dv → Goes p e below s Q K N (T'.setTop (mkF m n Ls rest))) : Goes p e below s Q K N (T.setTop (mkF m pc Ls (.long x :: .int j :: .ref a :: rest))) := by
  subst hn hvs hw
  obtain ⟨cl, A, q1, S, M, H, G⟩ := V
  obtain ⟨T', h', X', e', W, st'⟩ := stJ X hx hZ eT A (j := j) (inb_of S hj) (g := mkF m pc Ls (.long x :: .int j :: .ref a :: rest)) rfl rfl hd
  exact (g T' h' X' e' W (Arv.set A q1 S M H G rfl W i hi hlen)).via st'
theorem o_bastore (X : Stand p l e R s m args below meth c T locs cells slots) (hx : p.tables.exec = Jvm.exec) (hZ : Z.Warmed39 s.vm) (eT : T.heap = h) {a : Addr} {k : ClassId} {z j : Int32} {x : Int32} {vs vs' : List Value} {dv w : Value} (V : Arv Z h a k .byte z vs dv) (i : Nat) (hi : j.toNatClampNeg = i) (hj : ¬ j < 0 ∧ j < z) (hlen : i < vs.length) (hw : (.int (nar .byte x)) = w) (hvs : vs.set i w = vs') (hd : decode c.code pc = .ok (.bastore, 1)) (hn : pc + 1 = n)
    (g : ∀ T' h', Stand p l e R s m args below meth c T' (locs ++ [⟨a, j.toNatClampNeg⟩]) cells slots → T'.heap = h' → Wr h h' a j.toNatClampNeg w → Arv Z h' a k .byte z vs' dv → Goes p e below s Q K N (T'.setTop (mkF m n Ls rest))) : Goes p e below s Q K N (T.setTop (mkF m pc Ls (.int x :: .int j :: .ref a :: rest))) := by
  subst hn hvs hw
  obtain ⟨cl, A, q1, S, M, H, G⟩ := V
  obtain ⟨T', h', X', e', W, st'⟩ := stB X hx hZ eT A (j := j) (inb_of S hj) (g := mkF m pc Ls (.int x :: .int j :: .ref a :: rest)) rfl rfl hd
  exact (g T' h' X' e' W (Arv.set A q1 S M H G (fits_nar_byte x) W i hi hlen)).via st'
theorem o_bastoreZ (X : Stand p l e R s m args below meth c T locs cells slots) (hx : p.tables.exec = Jvm.exec) (hZ : Z.Warmed39 s.vm) (eT : T.heap = h) {a : Addr} {k : ClassId} {z j : Int32} {x : Int32} {vs vs' : List Value} {dv w : Value} (V : Arv Z h a k .boolean z vs dv) (i : Nat) (hi : j.toNatClampNeg = i) (hj : ¬ j < 0 ∧ j < z) (hlen : i < vs.length) (hw : (.int (nar .boolean x)) = w) (hvs : vs.set i w = vs') (hd : decode c.code pc = .ok (.bastore, 1)) (hn : pc + 1 = n)
    (g : ∀ T' h', Stand p l e R s m args below meth c T' (locs ++ [⟨a, j.toNatClampNeg⟩]) cells slots → T'.heap = h' → Wr h h' a j.toNatClampNeg w → Arv Z h' a k .boolean z vs' dv → Goes p e below s Q K N (T'.setTop (mkF m n Ls rest))) : Goes p e below s Q K N (T.setTop (mkF m pc Ls (.int x :: .int j :: .ref a :: rest))) := by
  subst hn hvs hw
  obtain ⟨cl, A, q1, S, M, H, G⟩ := V
  obtain ⟨T', h', X', e', W, st'⟩ := stZ X hx hZ eT A (j := j) (inb_of S hj) (g := mkF m pc Ls (.int x :: .int j :: .ref a :: rest)) rfl rfl hd
  exact (g T' h' X' e' W (Arv.set A q1 S M H G (fits_nar_bool x) W i hi hlen)).via st'

/-! calls -/
theorem o_initO (X : Stand p l e R s m args below meth c T locs cells slots) (hx : p.tables.exec = Jvm.exec) (hZ : Z.Warmed39 s.vm) {own : String} {idx : Nat} (hown : s.vm.findClass own = some m.cls) (w1 : (Jvm.Cond.methodLink own idx Lib.objectInit).before a0 Z = true) (w2 : (Jvm.Cond.instanceMethod Lib.objectInit).before a0 Z = true) (w3 : (Jvm.Cond.code Lib.objectInit ⟨#[0xb1]⟩ 1 none).before a0 Z = true) (eT : T.heap = h) (hsize : Ls.size = c.maxLocals) {a : Addr} (hd : decode c.code pc = .ok (.invokespecial idx, 3)) (hf : 1 ≤ R.frames) (W : Nat) (hW : (rest.map fun v => v.category).sum ≤ W) (hl : W + 12 ≤ R.locals) (hn : pc + 3 = n)
    (k : ∀ T', Stand p l e R s m args below meth c T' locs cells slots → T'.heap = h → Goes p e below s Q K N (T'.setTop (mkF m n Ls rest))) : Goes p e below s Q K N (T.setTop (mkF m pc Ls (.ref a :: rest))) := by
  subst hn
  obtain ⟨T', X', e', st'⟩ := initO X hx hZ hown w1 w2 w3 eT (g := mkF m pc Ls (.ref a :: rest)) rfl hsize rfl hd hf (W := W) (by show 2 * 0 + _ ≤ _; omega) hl
  exact (k T' X' e').via st'
theorem o_callS (X : Stand p l e R s m args below meth c T locs cells slots) (hx : p.tables.exec = Jvm.exec) (hZ : Z.Warmed39 s.vm) {own : String} {index : Nat} {y : MethodName} {bytes : ByteArray} {maxL : Nat} {ret : Option FieldType} {rm : Room} (hown : s.vm.findClass own = some m.cls) (w1 : (Jvm.Cond.methodLink own index y).before a0 Z = true) (w2 : (Jvm.Cond.static y).before a0 Z = true) (w3 : (Jvm.Cond.initialized y.cls).before a0 Z = true) (w4 : (Jvm.Cond.code y bytes maxL ret).before a0 Z = true) (hy : y.cls ≠ "java/lang/invoke/MethodHandle" ∧ y.cls ≠ "java/lang/invoke/VarHandle") (eT : T.heap = h)
    {argsL rest : List Value} {Q' : Option Value → Heap → List Loc → Prop} (hM : Does l Z y bytes maxL ret [] rm argsL.toArray h Q') (W : Nat) (hf : rm.frames + 1 ≤ R.frames) (hl : W + (maxL + 11) + rm.locals ≤ R.locals) (hc : cells + rm.cells ≤ R.cells) (hs : slots + rm.slots ≤ R.slots) (hsize : Ls.size = c.maxLocals) (hlen : ∀ sig, parseMethodDescriptor y.desc = some sig → argsL.length = sig.parameters.length) (hst : st = argsL.reverse ++ rest) (hW : (rest.map fun v => v.category).sum ≤ W) (hd : decode c.code pc = .ok (.invokestatic index, 3)) (hn : pc + 3 = n)
    (k : ∀ v T' L', Stand p l e R s m args below meth c T' (locs ++ L') (cells + rm.cells) (slots + rm.slots) → Q' v T'.heap L' → Goes p e below s Q K N (T'.setTop (mkF m n Ls (v.toList ++ rest)))) : Goes p e below s Q K N (T.setTop (mkF m pc Ls st)) := by
  subst hn
  obtain ⟨v, _, ⟨T', L, kk, nn⟩, -, X', ⟨Lc, hQ, l', y', z'⟩, st'⟩ := Jvm.LawKit.callS X hx (y := y) hown (mvT hZ w1) (mvT hZ w2) (mvT hZ w3) (mvT hZ w4) hy (backOf (W := W) hM hZ w4 w3 hf hl) (g := mkF m pc Ls st) rfl hsize (argsL := argsL) (rest := rest) hlen hst (by show 2 * 0 + _ ≤ _; omega) hd (fun _ _ => ⟨rfl, eT, hc, hs⟩)
  dsimp only [Pt.U, Pt.locs, Pt.cells, Pt.slots] at X' l' y' z' st' hQ
  subst l' y' z'
  exact (k v T' Lc X' hQ).via st'
theorem o_callN (X : Stand p l e R s m args below meth c T locs cells slots) (hx : p.tables.exec = Jvm.exec) (hZ : Z.Warmed39 s.vm) {own : String} {index : Nat} {y : MethodName} {bytes : ByteArray} {maxL : Nat} {rm : Room} (hy1 : y.name = "<init>") (hown : s.vm.findClass own = some m.cls) (w1 : (Jvm.Cond.methodLink own index y).before a0 Z = true) (w2 : (Jvm.Cond.instanceMethod y).before a0 Z = true) (w3 : (Jvm.Cond.initialized y.cls).before a0 Z = true) (w4 : (Jvm.Cond.code y bytes maxL none).before a0 Z = true) (hy : y.cls ≠ "java/lang/invoke/MethodHandle" ∧ y.cls ≠ "java/lang/invoke/VarHandle") (eT : T.heap = h)
    {a : Addr} {argsL rest : List Value} {Q' : Option Value → Heap → List Loc → Prop} (hM : Does l Z y bytes maxL none [] rm (.ref a :: argsL).toArray h Q') (W : Nat) (hf : rm.frames + 1 ≤ R.frames) (hl : W + (maxL + 11) + rm.locals ≤ R.locals) (hc : cells + rm.cells ≤ R.cells) (hs : slots + rm.slots ≤ R.slots) (hsize : Ls.size = c.maxLocals) (hlen : ∀ sig, parseMethodDescriptor y.desc = some sig → argsL.length = sig.parameters.length) (hst : st = argsL.reverse ++ .ref a :: rest) (hW : (rest.map fun v => v.category).sum ≤ W) (hd : decode c.code pc = .ok (.invokespecial index, 3)) (hn : pc + 3 = n)
    (k : ∀ v T' L', Stand p l e R s m args below meth c T' (locs ++ L') (cells + rm.cells) (slots + rm.slots) → Q' v T'.heap L' → Goes p e below s Q K N (T'.setTop (mkF m n Ls (v.toList ++ rest)))) : Goes p e below s Q K N (T.setTop (mkF m pc Ls st)) := by
  subst hn
  obtain ⟨v, _, ⟨T', L, kk, nn⟩, -, X', ⟨Lc, hQ, l', y', z'⟩, st'⟩ := X.specialBack hx (y := y) hy1 hown (mvT hZ w1) (mvT hZ w2) (mvT hZ w4) hy (backOf (W := W) hM hZ w4 w3 hf hl) (g := mkF m pc Ls st) rfl hsize (Steps.refl _) (a := a) (argsL := argsL) (rest := rest) hlen hst (by show 2 * 0 + _ ≤ _; omega) hd (fun _ _ => ⟨rfl, eT, hc, hs⟩)
  dsimp only [Pt.U, Pt.locs, Pt.cells, Pt.slots] at X' l' y' z' st' hQ
  subst l' y' z'
  exact (k v T' Lc X' hQ).via fun t q => st'.trans q
theorem o_callV (X : Stand p l e R s m args below meth c T locs cells slots) (hx : p.tables.exec = Jvm.exec) (hZ : Z.Warmed39 s.vm) {own C : String} {index : Nat} {y : MethodName} {bytes : ByteArray} {maxL : Nat} {ret : Option FieldType} {rm : Room} (hown : s.vm.findClass own = some m.cls) (w1 : (Jvm.Cond.methodLink own index y).before a0 Z = true) (w2 : (Jvm.Cond.declares y).before a0 Z = true) (w5 : (Jvm.Cond.selects C y y).before a0 Z = true) (w6 : (Jvm.Cond.instanceMethod y).before a0 Z = true) (w3 : (Jvm.Cond.initialized y.cls).before a0 Z = true) (w4 : (Jvm.Cond.code y bytes maxL ret).before a0 Z = true) (hy : y.cls ≠ "java/lang/invoke/MethodHandle" ∧ y.cls ≠ "java/lang/invoke/VarHandle") (eT : T.heap = h)
    {a : Addr} (E : Exa Z h a C) {argsL rest : List Value} {Q' : Option Value → Heap → List Loc → Prop} (hM : Does l Z y bytes maxL ret [] rm (.ref a :: argsL).toArray h Q') (W : Nat) (hf : rm.frames + 1 ≤ R.frames) (hl : W + (maxL + 11) + rm.locals ≤ R.locals) (hc : cells + rm.cells ≤ R.cells) (hs : slots + rm.slots ≤ R.slots) (hsize : Ls.size = c.maxLocals) (hlen : ∀ sig, parseMethodDescriptor y.desc = some sig → argsL.length = sig.parameters.length) (hst : st = argsL.reverse ++ .ref a :: rest) (hW : (rest.map fun v => v.category).sum ≤ W) (hd : decode c.code pc = .ok (.invokevirtual index, 3)) (hn : pc + 3 = n)
    (k : ∀ v T' L', Stand p l e R s m args below meth c T' (locs ++ L') (cells + rm.cells) (slots + rm.slots) → Q' v T'.heap L' → Goes p e below s Q K N (T'.setTop (mkF m n Ls (v.toList ++ rest)))) : Goes p e below s Q K N (T.setTop (mkF m pc Ls st)) := by
  subst hn
  obtain ⟨cq, kq, qa, qb, qc⟩ := isOf hZ eT E
  obtain ⟨v, _, ⟨T', L, kk, nn⟩, -, X', ⟨Lc, hQ, l', y', z'⟩, st'⟩ := X.virtualBack hx (y := y) (z := y) hown (mvT hZ w1) (mvT hZ w2) (notFace_of_selects (args := #[]) (mvT hZ w5)) (mvT hZ w5) (mvT hZ w6) hy (backOf (W := W) hM hZ w4 w3 hf hl) qa qc (g := mkF m pc Ls st) rfl hsize (Steps.refl _) (argsL := argsL) (rest := rest) hlen hst (by show 2 * 0 + _ ≤ _; omega) hd (fun _ _ => ⟨rfl, eT, hc, hs⟩)
  dsimp only [Pt.U, Pt.locs, Pt.cells, Pt.slots] at X' l' y' z' st' hQ
  subst l' y' z'
  exact (k v T' Lc X' hQ).via fun t q => st'.trans q
/-- a private method is the one that is selected -/
theorem o_selpriv {y : MethodName} {kk : Nat} (hy : y.cls ≠ "java/lang/invoke/MethodHandle" ∧ y.cls ≠ "java/lang/invoke/VarHandle") (hins : (Jvm.Cond.instantiable y.cls kk).before args s = true) (hpriv : (Jvm.Cond.privateMethod y).before args s = true) (hinst : (Jvm.Cond.instanceMethod y).before args s = true) : (Jvm.Cond.selects y.cls y y).before args s = true := by
  obtain ⟨c, k, hc, hk, -, hniab, -, -⟩ := Cond.instantiable_spec hins
  have hni : k.isInterface = false := (Bool.or_eq_false_iff.mp hniab).1
  obtain ⟨mk, methM, hnamed, hmethM, -, -⟩ := Cond.instanceMethod_spec hinst
  have hfound : s.methodFound? y.cls y.name y.desc = some mk := State.methodFound?_of_named hnamed hy
  have hcls : mk.cls = c := Option.some.inj ((findClass_of_methodNamed hnamed).symm.trans hc)
  have hsel : selectMethod {} s.vm c mk = .method mk := selectMethod_private hmethM (Cond.privateMethod_at hpriv mk methM hnamed hmethM)
  simp only [Cond.before, Cond.holds, Cond.value, hc, hfound, hnamed, hsel, hcls, hk]
  simp; exact hni
theorem o_callP (X : Stand p l e R s m args below meth c T locs cells slots) (hx : p.tables.exec = Jvm.exec) (hZ : Z.Warmed39 s.vm) {own C : String} {index kk : Nat} {y : MethodName} {bytes : ByteArray} {maxL : Nat} {ret : Option FieldType} {rm : Room} (hown : s.vm.findClass own = some m.cls) (w1 : (Jvm.Cond.methodLink own index y).before a0 Z = true) (w6 : (Jvm.Cond.instanceMethod y).before a0 Z = true) (w5 : (Jvm.Cond.privateMethod y).before a0 Z = true) (wi : (Jvm.Cond.instantiable y.cls kk).before a0 Z = true) (w3 : (Jvm.Cond.initialized y.cls).before a0 Z = true) (w4 : (Jvm.Cond.code y bytes maxL ret).before a0 Z = true) (hy : y.cls ≠ "java/lang/invoke/MethodHandle" ∧ y.cls ≠ "java/lang/invoke/VarHandle") (eT : T.heap = h)
    {a : Addr} (E : Exa Z h a C) {argsL rest : List Value} {Q' : Option Value → Heap → List Loc → Prop} (hM : Does l Z y bytes maxL ret [] rm (.ref a :: argsL).toArray h Q') (W : Nat) (hf : rm.frames + 1 ≤ R.frames) (hl : W + (maxL + 11) + rm.locals ≤ R.locals) (hc : cells + rm.cells ≤ R.cells) (hs : slots + rm.slots ≤ R.slots) (hsize : Ls.size = c.maxLocals) (hlen : ∀ sig, parseMethodDescriptor y.desc = some sig → argsL.length = sig.parameters.length) (hst : st = argsL.reverse ++ .ref a :: rest) (hW : (rest.map fun v => v.category).sum ≤ W) (hd : decode c.code pc = .ok (.invokevirtual index, 3)) (hn : pc + 3 = n)
    (k : ∀ v T' L', Stand p l e R s m args below meth c T' (locs ++ L') (cells + rm.cells) (slots + rm.slots) → Q' v T'.heap L' → Goes p e below s Q K N (T'.setTop (mkF m n Ls (v.toList ++ rest)))) : Goes p e below s Q K N (T.setTop (mkF m pc Ls st)) := by
  subst hn
  obtain ⟨cl, hcl, hob⟩ := E.cell
  obtain ⟨v, _, ⟨T', L, kk, nn⟩, -, X', ⟨Lc, hQ, l', y', z'⟩, st'⟩ := X.privateBack hx (y := y) hown (mvT hZ w1) (mvT hZ w6) (o_selpriv hy (mvT hZ wi) (mvP hZ w5) (mvT hZ w6)) (Cond.privateMethod_at (mvP hZ w5 (args := #[]))) (mvT hZ w4) hy (backOf (W := W) hM hZ w4 w3 hf hl) (g := mkF m pc Ls st) rfl hsize (Steps.refl _) (a := a) (by rw [eT]; exact hcl) hob (argsL := argsL) (rest := rest) hlen hst (by show 2 * 0 + _ ≤ _; omega) hd (fun _ _ => ⟨rfl, eT, hc, hs⟩)
  dsimp only [Pt.U, Pt.locs, Pt.cells, Pt.slots] at X' l' y' z' st' hQ
  subst l' y' z'
  exact (k v T' Lc X' hQ).via fun t q => st'.trans q
/-! returns -/
theorem o_retW (X : Stand p l e R s m args below meth c T locs cells slots) (hx : p.tables.exec = Jvm.exec) {t : FieldType} {w : Value} {i : Instr} (hret : meth.sig.returnType = some t) (hlk : meth.locks = false) (hnw : narrow t w = w)
    (hi : (i = .ireturn ∧ (t = .int ∨ t = .boolean ∨ t = .byte ∨ t = .char ∨ t = .short) ∧ ∃ z, w = .int z) ∨ (i = .lreturn ∧ t = .long ∧ ∃ z, w = .long z) ∨ (i = .dreturn ∧ t = .double ∧ ∃ z, w = .double z) ∨ (i = .freturn ∧ t = .float ∧ ∃ z, w = .float z) ∨ (i = .areturn ∧ t.isReference = true ∧ w.isRef = true))
    (hd : decode c.code pc = .ok (i, 1)) (hc : cells ≤ K) (hs : slots ≤ N) (eT : T.heap = h) (hQ : Q (some w) h locs) : Goes p e below s Q K N (T.setTop (mkF m pc Ls (w :: rest))) := by
  subst eT
  obtain ⟨fs, hr, hrun, hended, hW, hsame⟩ := X.leave (v := some w) (fun q => by rw [hret] at q; cases q) hlk
  exact ⟨_, _, retOut X hx hret hnw hi hd hr, hrun, hended, _, _, rfl, hQ, ⟨_, rfl⟩, hW, hsame.mono hc hs⟩
theorem o_ireturn (X : Stand p l e R s m args below meth c T locs cells slots) (hx : p.tables.exec = Jvm.exec) {x : Int32} (hret : meth.sig.returnType = some .int) (hlk : meth.locks = false) (hd : decode c.code pc = .ok (.ireturn, 1)) (hc : cells ≤ K) (hs : slots ≤ N) (eT : T.heap = h) (hQ : Q (some (.int x)) h locs) : Goes p e below s Q K N (T.setTop (mkF m pc Ls (.int x :: rest))) := o_retW X hx hret hlk rfl (Or.inl ⟨rfl, Or.inl rfl, x, rfl⟩) hd hc hs eT hQ
theorem o_lreturn (X : Stand p l e R s m args below meth c T locs cells slots) (hx : p.tables.exec = Jvm.exec) {x : Int64} (hret : meth.sig.returnType = some .long) (hlk : meth.locks = false) (hd : decode c.code pc = .ok (.lreturn, 1)) (hc : cells ≤ K) (hs : slots ≤ N) (eT : T.heap = h) (hQ : Q (some (.long x)) h locs) : Goes p e below s Q K N (T.setTop (mkF m pc Ls (.long x :: rest))) := o_retW X hx hret hlk rfl (Or.inr (Or.inl ⟨rfl, rfl, x, rfl⟩)) hd hc hs eT hQ
theorem o_areturn (X : Stand p l e R s m args below meth c T locs cells slots) (hx : p.tables.exec = Jvm.exec) {t : FieldType} {w : Value} (hret : meth.sig.returnType = some t) (hlk : meth.locks = false) (ht : t.isReference = true) (hw : w.isRef = true) (hd : decode c.code pc = .ok (.areturn, 1)) (hc : cells ≤ K) (hs : slots ≤ N) (eT : T.heap = h) (hQ : Q (some w) h locs) : Goes p e below s Q K N (T.setTop (mkF m pc Ls (w :: rest))) := o_retW X hx hret hlk (by cases t <;> first | rfl | cases ht) (Or.inr (Or.inr (Or.inr (Or.inr ⟨rfl, ht, hw⟩)))) hd hc hs eT hQ
/-- a boolean, byte, char or short: narrowed -/
theorem o_nreturn (X : Stand p l e R s m args below meth c T locs cells slots) (hx : p.tables.exec = Jvm.exec) {t : FieldType} {x : Int32} (hret : meth.sig.returnType = some t) (hlk : meth.locks = false) (ht : t = .boolean ∨ t = .byte ∨ t = .char ∨ t = .short) (hd : decode c.code pc = .ok (.ireturn, 1)) (hc : cells ≤ K) (hs : slots ≤ N) (eT : T.heap = h) (hQ : Q (some (.int (nar t x))) h locs) : Goes p e below s Q K N (T.setTop (mkF m pc Ls (.int x :: rest))) := by
  subst eT
  obtain ⟨fs, hr, hrun, hended, hW, hsame⟩ := X.leave (v := some (.int (nar t x))) (fun q => by rw [hret] at q; cases q) hlk
  exact ⟨_, _, retN X hx hret ht hd hr, hrun, hended, _, _, rfl, hQ, ⟨_, rfl⟩, hW, hsame.mono hc hs⟩
theorem o_return (X : Stand p l e R s m args below meth c T locs cells slots) (hx : p.tables.exec = Jvm.exec) (hret : meth.sig.returnType = none) (hlk : meth.locks = false) (hd : decode c.code pc = .ok (.return_, 1)) (hc : cells ≤ K) (hs : slots ≤ N) (eT : T.heap = h) (hQ : Q none h locs) : Goes p e below s Q K N (T.setTop (mkF m pc Ls [])) := by
  subst eT
  obtain ⟨fs, hr, hrun, hended, hW, hsame⟩ := X.leave (v := none) (fun _ => rfl) hlk
  exact ⟨_, _, X.returnOut hx hret hd hr, hrun, hended, _, _, rfl, hQ, ⟨_, rfl⟩, hW, hsame.mono hc hs⟩
/-- what a call that writes nothing promises -/
def Pur (h0 : Heap) (w : Value) (v : Option Value) (h : Heap) (L : List Loc) : Prop := v = some w ∧ h = h0 ∧ L = []
end Layer

theorem o_nz1 : nar .boolean (1 : Int32) = 1 := by decide
theorem o_nz0 : nar .boolean (0 : Int32) = 0 := by decide
theorem o_nar8 (x : Int32) : nar .byte x.toInt8.toInt32 = x.toInt8.toInt32 := by simp [nar]

theorem o_mod3 (x : Int32) : (x &&& 2147483647) % 3 = 0 ∨ (x &&& 2147483647) % 3 = 1 ∨ (x &&& 2147483647) % 3 = 2 := by
  have a := c_mask x 2147483647 31 (by decide) (by decide)
  have b : 0 ≤ x.toInt % (2 ^ 31 : Nat) := Int.emod_nonneg _ (by decide)
  have d := (c_irem (x &&& 2147483647) 3 3 rfl).1 (by rw [a]; exact b)
  have e0 : (0 : Int32).toInt = 0 := rfl
  have e1 : (1 : Int32).toInt = 1 := rfl
  have e2 : (2 : Int32).toInt = 2 := rfl
  simp only [← Int32.toInt_inj]
  omega

def o_t (k x : Int32) : Int32 := if x &&& k = 0 then 0 else 1
def o_not (x : Int32) : Int32 := if x = 0 then 1 else 0
def o_sq (x : Int64) : Int64 := if x = -9223372036854775808 then 0 else x
def o_s (x : Int32) (y : Int64) : Int64 := if x &&& 4 = 0 then y else -9223372036854775808
theorem o_nt (k x : Int32) : nar .boolean (o_t k x) = o_t k x := by
  unfold o_t; split <;> decide
theorem o_nn (x : Int32) : nar .boolean (o_not x) = o_not x := by
  unfold o_not; split <;> decide

theorem d_prog_1_method_1_code_0 : decode prog_1_method_1_code 0 = .ok (.aload_n 0, 1) := by decide +kernel
theorem d_prog_1_method_1_code_1 : decode prog_1_method_1_code 1 = .ok (.invokespecial 1, 3) := by decide +kernel
theorem d_prog_1_method_1_code_4 : decode prog_1_method_1_code 4 = .ok (.aload_n 0, 1) := by decide +kernel
theorem d_prog_1_method_1_code_5 : decode prog_1_method_1_code 5 = .ok (.iload_n 1, 1) := by decide +kernel
theorem d_prog_1_method_1_code_6 : decode prog_1_method_1_code 6 = .ok (.newarray .boolean, 2) := by decide +kernel
theorem d_prog_1_method_1_code_8 : decode prog_1_method_1_code 8 = .ok (.putfield 7, 3) := by decide +kernel
theorem d_prog_1_method_1_code_11 : decode prog_1_method_1_code 11 = .ok (.aload_n 0, 1) := by decide +kernel
theorem d_prog_1_method_1_code_12 : decode prog_1_method_1_code 12 = .ok (.iload_n 1, 1) := by decide +kernel
theorem d_prog_1_method_1_code_13 : decode prog_1_method_1_code 13 = .ok (.newarray .boolean, 2) := by decide +kernel
theorem d_prog_1_method_1_code_15 : decode prog_1_method_1_code 15 = .ok (.putfield 13, 3) := by decide +kernel
theorem d_prog_1_method_1_code_18 : decode prog_1_method_1_code 18 = .ok (.aload_n 0, 1) := by decide +kernel
theorem d_prog_1_method_1_code_19 : decode prog_1_method_1_code 19 = .ok (.iload_n 1, 1) := by decide +kernel
theorem d_prog_1_method_1_code_20 : decode prog_1_method_1_code 20 = .ok (.newarray .long, 2) := by decide +kernel
theorem d_prog_1_method_1_code_22 : decode prog_1_method_1_code 22 = .ok (.putfield 16, 3) := by decide +kernel
theorem d_prog_1_method_1_code_25 : decode prog_1_method_1_code 25 = .ok (.aload_n 0, 1) := by decide +kernel
theorem d_prog_1_method_1_code_26 : decode prog_1_method_1_code 26 = .ok (.iload_n 1, 1) := by decide +kernel
theorem d_prog_1_method_1_code_27 : decode prog_1_method_1_code 27 = .ok (.newarray .long, 2) := by decide +kernel
theorem d_prog_1_method_1_code_29 : decode prog_1_method_1_code 29 = .ok (.putfield 20, 3) := by decide +kernel
theorem d_prog_1_method_1_code_32 : decode prog_1_method_1_code 32 = .ok (.aload_n 0, 1) := by decide +kernel
theorem d_prog_1_method_1_code_33 : decode prog_1_method_1_code 33 = .ok (.iload_n 1, 1) := by decide +kernel
theorem d_prog_1_method_1_code_34 : decode prog_1_method_1_code 34 = .ok (.newarray .long, 2) := by decide +kernel
theorem d_prog_1_method_1_code_36 : decode prog_1_method_1_code 36 = .ok (.putfield 23, 3) := by decide +kernel
theorem d_prog_1_method_1_code_39 : decode prog_1_method_1_code 39 = .ok (.return_, 1) := by decide +kernel
theorem o_ef1 (m : MethodId) (a1 : Addr) : entryFrame m #[(.ref a1), (.int (3 : Int32))] 2 = mkF m 0 #[.val (.ref a1), .val (.int (3 : Int32))] [] := by first | (simp [entryFrame, mkF, argsToLocals, Value.category]; done) | rfl
theorem o_pn0 : plainName "com/example/overbook_guard/overbookguard/gate/Counters" = true := by first | (simp [plainName, overriddenIn]; done) | decide +kernel
set_option maxRecDepth 65536 in
set_option maxHeartbeats 40000000 in
theorem c_init (l : Launch) (Z : State) (a0 : Array Value) (hw : ∀ d ∈ tables_1, d.before a0 Z = true) (a1 : Addr) (h0 : Heap) (n0 : Nat) (Z0 : n0 ≤ h0.size) (pg_a1 : n0 ≤ a1) (pE_a1 : Exa Z h0 a1 "com/example/overbook_guard/overbookguard/gate/Counters") (pF_a1_held : Fld Z h0 a1 "com/example/overbook_guard/overbookguard/gate/Counters" "held" "[Z" .null) (pF_a1_counted : Fld Z h0 a1 "com/example/overbook_guard/overbookguard/gate/Counters" "counted" "[Z" .null) (pF_a1_cores : Fld Z h0 a1 "com/example/overbook_guard/overbookguard/gate/Counters" "cores" "[J" .null) (pF_a1_gpus : Fld Z h0 a1 "com/example/overbook_guard/overbookguard/gate/Counters" "gpus" "[J" .null) (pF_a1_seq : Fld Z h0 a1 "com/example/overbook_guard/overbookguard/gate/Counters" "seq" "[J" .null) :
    Does l Z (⟨"com/example/overbook_guard/overbookguard/gate/Counters", "<init>", "(I)V"⟩ : MethodName) prog_1_method_1_code 2 none [] ({ frames := 1, cells := 5, slots := 15, locals := 12 } : Room) #[(.ref a1), (.int (3 : Int32))] h0 (fun v h L => ∃ (y0 : Addr) (k0 : ClassId), ∃ (y1 : Addr) (k1 : ClassId), ∃ (y2 : Addr) (k2 : ClassId), ∃ (y3 : Addr) (k3 : ClassId), ∃ (y4 : Addr) (k4 : ClassId), v = none ∧ Fr n0 L ∧ Keep h0 h [a1] ∧ h0.size ≤ y0 ∧ h0.size ≤ y1 ∧ h0.size ≤ y2 ∧ h0.size ≤ y3 ∧ h0.size ≤ y4 ∧ y0 ≠ y1 ∧ y0 ≠ y2 ∧ y0 ≠ y3 ∧ y0 ≠ y4 ∧ y1 ≠ y2 ∧ y1 ≠ y3 ∧ y1 ≠ y4 ∧ y2 ≠ y3 ∧ y2 ≠ y4 ∧ y3 ≠ y4 ∧ Exa Z h a1 "com/example/overbook_guard/overbookguard/gate/Counters" ∧ Fld Z h a1 "com/example/overbook_guard/overbookguard/gate/Counters" "held" "[Z" (.ref y0) ∧ Fld Z h a1 "com/example/overbook_guard/overbookguard/gate/Counters" "counted" "[Z" (.ref y1) ∧ Fld Z h a1 "com/example/overbook_guard/overbookguard/gate/Counters" "cores" "[J" (.ref y2) ∧ Fld Z h a1 "com/example/overbook_guard/overbookguard/gate/Counters" "gpus" "[J" (.ref y3) ∧ Fld Z h a1 "com/example/overbook_guard/overbookguard/gate/Counters" "seq" "[J" (.ref y4) ∧ Arv Z h y0 k0 .boolean (3 : Int32) [(.int (0 : Int32)), (.int (0 : Int32)), (.int (0 : Int32))] (.int (0 : Int32)) ∧ Arv Z h y1 k1 .boolean (3 : Int32) [(.int (0 : Int32)), (.int (0 : Int32)), (.int (0 : Int32))] (.int (0 : Int32)) ∧ Arv Z h y2 k2 .long (3 : Int32) [(.long (0 : Int64)), (.long (0 : Int64)), (.long (0 : Int64))] (.long (0 : Int64)) ∧ Arv Z h y3 k3 .long (3 : Int32) [(.long (0 : Int64)), (.long (0 : Int64)), (.long (0 : Int64))] (.long (0 : Int64)) ∧ Arv Z h y4 k4 .long (3 : Int32) [(.long (0 : Int64)), (.long (0 : Int64)), (.long (0 : Int64))] (.long (0 : Int64))) := by
  refine Does.of (plainFor_of_name o_pn0) ?_
  intro p e s m below meth c T0 hx hby hml hown hnm hret hlk hZ X0 e0
  have hown : s.vm.findClass "com/example/overbook_guard/overbookguard/gate/Counters" = some m.cls := hown
  have hml : c.maxLocals = 2 := hml
  have hret : meth.sig.returnType = none := hret
  refine o_entry (o_ef1 m a1) ?_
  have N0 := Fr.nil n0
  refine o_aloadN X0 hx (hb hby d_prog_1_method_1_code_0) (v := (.ref a1)) rfl rfl (n := 1) rfl ?_
  refine o_initO X0 hx hZ hown (hw _ (List.mem_of_getElem? (i := 8) rfl)) (hw _ (List.mem_of_getElem? (i := 9) rfl)) (hw _ (List.mem_of_getElem? (i := 10) rfl)) e0 (by rw [hml]; rfl) (hb hby d_prog_1_method_1_code_1) (by decide) 0 (Nat.le_of_eq rfl) (by decide) (n := 4) rfl ?_
  intro T1 X1 e1
  refine o_aloadN X1 hx (hb hby d_prog_1_method_1_code_4) (v := (.ref a1)) rfl rfl (n := 5) rfl ?_
  refine o_iloadN X1 hx (hb hby d_prog_1_method_1_code_5) (v := (3 : Int32)) rfl (n := 6) rfl ?_
  refine o_newarray X1 hx hZ (aty := .boolean) (hw _ (List.mem_of_getElem? (i := 11) rfl)) e1 (hb hby d_prog_1_method_1_code_6) (by decide) 3 (by decide) (by decide) (by decide) (by decide) (n := 8) rfl ?_
  intro T2 h2 b2 k2 X2 e2 g2 E2 V2
  have ne3 : a1 ≠ b2 := Nat.ne_of_lt (Nat.lt_of_lt_of_eq pE_a1.lt g2.symm)
  have gg2 : n0 ≤ b2 := Nat.le_trans Z0 (Nat.le_of_eq g2.symm)
  have zz2 : n0 ≤ h2.size := Nat.le_trans Z0 E2.1
  have sz2 : h0.size ≤ b2 := Nat.le_trans (Keep.refl h0 [a1]).1 (Nat.le_of_eq g2.symm)
  have f4 := pE_a1.ext E2
  have f5 := pF_a1_held.ext E2
  have f6 := pF_a1_counted.ext E2
  have f7 := pF_a1_cores.ext E2
  have f8 := pF_a1_gpus.ext E2
  have f9 := pF_a1_seq.ext E2
  have K10 : Keep h0 h2 [a1] := (Keep.refl h0 [a1]).ext E2
  have f11 : Arv Z h2 b2 k2 .boolean (3 : Int32) [(.int (0 : Int32)), (.int (0 : Int32)), (.int (0 : Int32))] (.int (0 : Int32)) := V2.pad (pad_rep [] (.int (0 : Int32)) 3)
  refine o_putfield X2 hx hZ hown (host := "") (Or.inl (hw _ (List.mem_of_getElem? (i := 12) rfl))) Via.refl e2 f5 f4 (Or.inr ⟨(hw _ (List.mem_of_getElem? (i := 13) rfl)), rfl, hnm⟩) (hw _ (List.mem_of_getElem? (i := 3) rfl)) (ty := (.array .boolean)) (by decide) rfl rfl (hb hby d_prog_1_method_1_code_8) (n := 11) rfl ?_
  intro T12 h12 X12 e12 W12 F12 E_12
  have f13 := f6.other W12 (Or.inr (slot_ne (Or.inr (hw _ (List.mem_of_getElem? (i := 15) rfl))) (Or.inr (hw _ (List.mem_of_getElem? (i := 13) rfl))) (by decide) (t := (.array .boolean)) (t' := (.array .boolean)) (by decide) (by decide)))
  have f14 := f7.other W12 (Or.inr (slot_ne (Or.inr (hw _ (List.mem_of_getElem? (i := 18) rfl))) (Or.inr (hw _ (List.mem_of_getElem? (i := 13) rfl))) (by decide) (t := (.array .long)) (t' := (.array .boolean)) (by decide) (by decide)))
  have f15 := f8.other W12 (Or.inr (slot_ne (Or.inr (hw _ (List.mem_of_getElem? (i := 20) rfl))) (Or.inr (hw _ (List.mem_of_getElem? (i := 13) rfl))) (by decide) (t := (.array .long)) (t' := (.array .boolean)) (by decide) (by decide)))
  have f16 := f9.other W12 (Or.inr (slot_ne (Or.inr (hw _ (List.mem_of_getElem? (i := 22) rfl))) (Or.inr (hw _ (List.mem_of_getElem? (i := 13) rfl))) (by decide) (t := (.array .long)) (t' := (.array .boolean)) (by decide) (by decide)))
  have f17 := f11.other W12 (Ne.symm ne3)
  have zz12 : n0 ≤ h12.size := Nat.le_trans zz2 (Nat.le_of_eq W12.size.symm)
  have N18 := Fr.snoc X12 N0 pg_a1
  have K19 : Keep h0 h12 [a1] := K10.wr W12 (Or.inl (List.mem_of_getElem? (i := 0) rfl))
  refine o_aloadN X12 hx (hb hby d_prog_1_method_1_code_11) (v := (.ref a1)) rfl rfl (n := 12) rfl ?_
  refine o_iloadN X12 hx (hb hby d_prog_1_method_1_code_12) (v := (3 : Int32)) rfl (n := 13) rfl ?_
  refine o_newarray X12 hx hZ (aty := .boolean) (hw _ (List.mem_of_getElem? (i := 11) rfl)) e12 (hb hby d_prog_1_method_1_code_13) (by decide) 3 (by decide) (by decide) (by decide) (by decide) (n := 15) rfl ?_
  intro T20 h20 b20 k20 X20 e20 g20 E20 V20
  have ne21 : a1 ≠ b20 := Nat.ne_of_lt (Nat.lt_of_lt_of_eq E_12.lt g20.symm)
  have ne22 : b2 ≠ b20 := Nat.ne_of_lt (Nat.lt_of_lt_of_eq f17.lt g20.symm)
  have gg20 : n0 ≤ b20 := Nat.le_trans zz12 (Nat.le_of_eq g20.symm)
  have zz20 : n0 ≤ h20.size := Nat.le_trans zz12 E20.1
  have sz20 : h0.size ≤ b20 := Nat.le_trans K19.1 (Nat.le_of_eq g20.symm)
  have f23 := E_12.ext E20
  have f24 := F12.ext E20
  have f25 := f13.ext E20
  have f26 := f14.ext E20
  have f27 := f15.ext E20
  have f28 := f16.ext E20
  have f29 := f17.ext E20
  have K30 : Keep h0 h20 [a1] := K19.ext E20
  have f31 : Arv Z h20 b20 k20 .boolean (3 : Int32) [(.int (0 : Int32)), (.int (0 : Int32)), (.int (0 : Int32))] (.int (0 : Int32)) := V20.pad (pad_rep [] (.int (0 : Int32)) 3)
  refine o_putfield X20 hx hZ hown (host := "") (Or.inl (hw _ (List.mem_of_getElem? (i := 14) rfl))) Via.refl e20 f25 f23 (Or.inr ⟨(hw _ (List.mem_of_getElem? (i := 15) rfl)), rfl, hnm⟩) (hw _ (List.mem_of_getElem? (i := 3) rfl)) (ty := (.array .boolean)) (by decide) rfl rfl (hb hby d_prog_1_method_1_code_15) (n := 18) rfl ?_
  intro T32 h32 X32 e32 W32 F32 E_32
  have f33 := f24.other W32 (Or.inr (slot_ne (Or.inr (hw _ (List.mem_of_getElem? (i := 13) rfl))) (Or.inr (hw _ (List.mem_of_getElem? (i := 15) rfl))) (by decide) (t := (.array .boolean)) (t' := (.array .boolean)) (by decide) (by decide)))
  have f34 := f26.other W32 (Or.inr (slot_ne (Or.inr (hw _ (List.mem_of_getElem? (i := 18) rfl))) (Or.inr (hw _ (List.mem_of_getElem? (i := 15) rfl))) (by decide) (t := (.array .long)) (t' := (.array .boolean)) (by decide) (by decide)))
  have f35 := f27.other W32 (Or.inr (slot_ne (Or.inr (hw _ (List.mem_of_getElem? (i := 20) rfl))) (Or.inr (hw _ (List.mem_of_getElem? (i := 15) rfl))) (by decide) (t := (.array .long)) (t' := (.array .boolean)) (by decide) (by decide)))
  have f36 := f28.other W32 (Or.inr (slot_ne (Or.inr (hw _ (List.mem_of_getElem? (i := 22) rfl))) (Or.inr (hw _ (List.mem_of_getElem? (i := 15) rfl))) (by decide) (t := (.array .long)) (t' := (.array .boolean)) (by decide) (by decide)))
  have f37 := f29.other W32 (Ne.symm ne3)
  have f38 := f31.other W32 (Ne.symm ne21)
  have zz32 : n0 ≤ h32.size := Nat.le_trans zz20 (Nat.le_of_eq W32.size.symm)
  have N39 := Fr.snoc X32 N18 pg_a1
  have K40 : Keep h0 h32 [a1] := K30.wr W32 (Or.inl (List.mem_of_getElem? (i := 0) rfl))
  refine o_aloadN X32 hx (hb hby d_prog_1_method_1_code_18) (v := (.ref a1)) rfl rfl (n := 19) rfl ?_
  refine o_iloadN X32 hx (hb hby d_prog_1_method_1_code_19) (v := (3 : Int32)) rfl (n := 20) rfl ?_
  refine o_newarray X32 hx hZ (aty := .long) (hw _ (List.mem_of_getElem? (i := 16) rfl)) e32 (hb hby d_prog_1_method_1_code_20) (by decide) 3 (by decide) (by decide) (by decide) (by decide) (n := 22) rfl ?_
  intro T41 h41 b41 k41 X41 e41 g41 E41 V41
  have ne42 : a1 ≠ b41 := Nat.ne_of_lt (Nat.lt_of_lt_of_eq E_32.lt g41.symm)
  have ne43 : b2 ≠ b41 := Nat.ne_of_lt (Nat.lt_of_lt_of_eq f37.lt g41.symm)
  have ne44 : b20 ≠ b41 := Nat.ne_of_lt (Nat.lt_of_lt_of_eq f38.lt g41.symm)
  have gg41 : n0 ≤ b41 := Nat.le_trans zz32 (Nat.le_of_eq g41.symm)
  have zz41 : n0 ≤ h41.size := Nat.le_trans zz32 E41.1
  have sz41 : h0.size ≤ b41 := Nat.le_trans K40.1 (Nat.le_of_eq g41.symm)
  have f45 := E_32.ext E41
  have f46 := f33.ext E41
  have f47 := F32.ext E41
  have f48 := f34.ext E41
  have f49 := f35.ext E41
  have f50 := f36.ext E41
  have f51 := f37.ext E41
  have f52 := f38.ext E41
  have K53 : Keep h0 h41 [a1] := K40.ext E41
  have f54 : Arv Z h41 b41 k41 .long (3 : Int32) [(.long (0 : Int64)), (.long (0 : Int64)), (.long (0 : Int64))] (.long (0 : Int64)) := V41.pad (pad_rep [] (.long (0 : Int64)) 3)
  refine o_putfield X41 hx hZ hown (host := "") (Or.inl (hw _ (List.mem_of_getElem? (i := 17) rfl))) Via.refl e41 f48 f45 (Or.inr ⟨(hw _ (List.mem_of_getElem? (i := 18) rfl)), rfl, hnm⟩) (hw _ (List.mem_of_getElem? (i := 3) rfl)) (ty := (.array .long)) (by decide) rfl rfl (hb hby d_prog_1_method_1_code_22) (n := 25) rfl ?_
  intro T55 h55 X55 e55 W55 F55 E_55
  have f56 := f46.other W55 (Or.inr (slot_ne (Or.inr (hw _ (List.mem_of_getElem? (i := 13) rfl))) (Or.inr (hw _ (List.mem_of_getElem? (i := 18) rfl))) (by decide) (t := (.array .boolean)) (t' := (.array .long)) (by decide) (by decide)))
  have f57 := f47.other W55 (Or.inr (slot_ne (Or.inr (hw _ (List.mem_of_getElem? (i := 15) rfl))) (Or.inr (hw _ (List.mem_of_getElem? (i := 18) rfl))) (by decide) (t := (.array .boolean)) (t' := (.array .long)) (by decide) (by decide)))
  have f58 := f49.other W55 (Or.inr (slot_ne (Or.inr (hw _ (List.mem_of_getElem? (i := 20) rfl))) (Or.inr (hw _ (List.mem_of_getElem? (i := 18) rfl))) (by decide) (t := (.array .long)) (t' := (.array .long)) (by decide) (by decide)))
  have f59 := f50.other W55 (Or.inr (slot_ne (Or.inr (hw _ (List.mem_of_getElem? (i := 22) rfl))) (Or.inr (hw _ (List.mem_of_getElem? (i := 18) rfl))) (by decide) (t := (.array .long)) (t' := (.array .long)) (by decide) (by decide)))
  have f60 := f51.other W55 (Ne.symm ne3)
  have f61 := f52.other W55 (Ne.symm ne21)
  have f62 := f54.other W55 (Ne.symm ne42)
  have zz55 : n0 ≤ h55.size := Nat.le_trans zz41 (Nat.le_of_eq W55.size.symm)
  have N63 := Fr.snoc X55 N39 pg_a1
  have K64 : Keep h0 h55 [a1] := K53.wr W55 (Or.inl (List.mem_of_getElem? (i := 0) rfl))
  refine o_aloadN X55 hx (hb hby d_prog_1_method_1_code_25) (v := (.ref a1)) rfl rfl (n := 26) rfl ?_
  refine o_iloadN X55 hx (hb hby d_prog_1_method_1_code_26) (v := (3 : Int32)) rfl (n := 27) rfl ?_
  refine o_newarray X55 hx hZ (aty := .long) (hw _ (List.mem_of_getElem? (i := 16) rfl)) e55 (hb hby d_prog_1_method_1_code_27) (by decide) 3 (by decide) (by decide) (by decide) (by decide) (n := 29) rfl ?_
  intro T65 h65 b65 k65 X65 e65 g65 E65 V65
  have ne66 : a1 ≠ b65 := Nat.ne_of_lt (Nat.lt_of_lt_of_eq E_55.lt g65.symm)
  have ne67 : b2 ≠ b65 := Nat.ne_of_lt (Nat.lt_of_lt_of_eq f60.lt g65.symm)
  have ne68 : b20 ≠ b65 := Nat.ne_of_lt (Nat.lt_of_lt_of_eq f61.lt g65.symm)
  have ne69 : b41 ≠ b65 := Nat.ne_of_lt (Nat.lt_of_lt_of_eq f62.lt g65.symm)
  have gg65 : n0 ≤ b65 := Nat.le_trans zz55 (Nat.le_of_eq g65.symm)
  have zz65 : n0 ≤ h65.size := Nat.le_trans zz55 E65.1
  have sz65 : h0.size ≤ b65 := Nat.le_trans K64.1 (Nat.le_of_eq g65.symm)
  have f70 := E_55.ext E65
  have f71 := f56.ext E65
  have f72 := f57.ext E65
  have f73 := F55.ext E65
  have f74 := f58.ext E65
  have f75 := f59.ext E65
  have f76 := f60.ext E65
  have f77 := f61.ext E65
  have f78 := f62.ext E65
  have K79 : Keep h0 h65 [a1] := K64.ext E65
  have f80 : Arv Z h65 b65 k65 .long (3 : Int32) [(.long (0 : Int64)), (.long (0 : Int64)), (.long (0 : Int64))] (.long (0 : Int64)) := V65.pad (pad_rep [] (.long (0 : Int64)) 3)
  refine o_putfield X65 hx hZ hown (host := "") (Or.inl (hw _ (List.mem_of_getElem? (i := 19) rfl))) Via.refl e65 f74 f70 (Or.inr ⟨(hw _ (List.mem_of_getElem? (i := 20) rfl)), rfl, hnm⟩) (hw _ (List.mem_of_getElem? (i := 3) rfl)) (ty := (.array .long)) (by decide) rfl rfl (hb hby d_prog_1_method_1_code_29) (n := 32) rfl ?_
  intro T81 h81 X81 e81 W81 F81 E_81
  have f82 := f71.other W81 (Or.inr (slot_ne (Or.inr (hw _ (List.mem_of_getElem? (i := 13) rfl))) (Or.inr (hw _ (List.mem_of_getElem? (i := 20) rfl))) (by decide) (t := (.array .boolean)) (t' := (.array .long)) (by decide) (by decide)))
  have f83 := f72.other W81 (Or.inr (slot_ne (Or.inr (hw _ (List.mem_of_getElem? (i := 15) rfl))) (Or.inr (hw _ (List.mem_of_getElem? (i := 20) rfl))) (by decide) (t := (.array .boolean)) (t' := (.array .long)) (by decide) (by decide)))
  have f84 := f73.other W81 (Or.inr (slot_ne (Or.inr (hw _ (List.mem_of_getElem? (i := 18) rfl))) (Or.inr (hw _ (List.mem_of_getElem? (i := 20) rfl))) (by decide) (t := (.array .long)) (t' := (.array .long)) (by decide) (by decide)))
  have f85 := f75.other W81 (Or.inr (slot_ne (Or.inr (hw _ (List.mem_of_getElem? (i := 22) rfl))) (Or.inr (hw _ (List.mem_of_getElem? (i := 20) rfl))) (by decide) (t := (.array .long)) (t' := (.array .long)) (by decide) (by decide)))
  have f86 := f76.other W81 (Ne.symm ne3)
  have f87 := f77.other W81 (Ne.symm ne21)
  have f88 := f78.other W81 (Ne.symm ne42)
  have f89 := f80.other W81 (Ne.symm ne66)
  have zz81 : n0 ≤ h81.size := Nat.le_trans zz65 (Nat.le_of_eq W81.size.symm)
  have N90 := Fr.snoc X81 N63 pg_a1
  have K91 : Keep h0 h81 [a1] := K79.wr W81 (Or.inl (List.mem_of_getElem? (i := 0) rfl))
  refine o_aloadN X81 hx (hb hby d_prog_1_method_1_code_32) (v := (.ref a1)) rfl rfl (n := 33) rfl ?_
  refine o_iloadN X81 hx (hb hby d_prog_1_method_1_code_33) (v := (3 : Int32)) rfl (n := 34) rfl ?_
  refine o_newarray X81 hx hZ (aty := .long) (hw _ (List.mem_of_getElem? (i := 16) rfl)) e81 (hb hby d_prog_1_method_1_code_34) (by decide) 3 (by decide) (by decide) (by decide) (by decide) (n := 36) rfl ?_
  intro T92 h92 b92 k92 X92 e92 g92 E92 V92
  have ne93 : a1 ≠ b92 := Nat.ne_of_lt (Nat.lt_of_lt_of_eq E_81.lt g92.symm)
  have ne94 : b2 ≠ b92 := Nat.ne_of_lt (Nat.lt_of_lt_of_eq f86.lt g92.symm)
  have ne95 : b20 ≠ b92 := Nat.ne_of_lt (Nat.lt_of_lt_of_eq f87.lt g92.symm)
  have ne96 : b41 ≠ b92 := Nat.ne_of_lt (Nat.lt_of_lt_of_eq f88.lt g92.symm)
  have ne97 : b65 ≠ b92 := Nat.ne_of_lt (Nat.lt_of_lt_of_eq f89.lt g92.symm)
  have gg92 : n0 ≤ b92 := Nat.le_trans zz81 (Nat.le_of_eq g92.symm)
  have zz92 : n0 ≤ h92.size := Nat.le_trans zz81 E92.1
  have sz92 : h0.size ≤ b92 := Nat.le_trans K91.1 (Nat.le_of_eq g92.symm)
  have f98 := E_81.ext E92
  have f99 := f82.ext E92
  have f100 := f83.ext E92
  have f101 := f84.ext E92
  have f102 := F81.ext E92
  have f103 := f85.ext E92
  have f104 := f86.ext E92
  have f105 := f87.ext E92
  have f106 := f88.ext E92
  have f107 := f89.ext E92
  have K108 : Keep h0 h92 [a1] := K91.ext E92
  have f109 : Arv Z h92 b92 k92 .long (3 : Int32) [(.long (0 : Int64)), (.long (0 : Int64)), (.long (0 : Int64))] (.long (0 : Int64)) := V92.pad (pad_rep [] (.long (0 : Int64)) 3)
  refine o_putfield X92 hx hZ hown (host := "") (Or.inl (hw _ (List.mem_of_getElem? (i := 21) rfl))) Via.refl e92 f103 f98 (Or.inr ⟨(hw _ (List.mem_of_getElem? (i := 22) rfl)), rfl, hnm⟩) (hw _ (List.mem_of_getElem? (i := 3) rfl)) (ty := (.array .long)) (by decide) rfl rfl (hb hby d_prog_1_method_1_code_36) (n := 39) rfl ?_
  intro T110 h110 X110 e110 W110 F110 E_110
  have f111 := f99.other W110 (Or.inr (slot_ne (Or.inr (hw _ (List.mem_of_getElem? (i := 13) rfl))) (Or.inr (hw _ (List.mem_of_getElem? (i := 22) rfl))) (by decide) (t := (.array .boolean)) (t' := (.array .long)) (by decide) (by decide)))
  have f112 := f100.other W110 (Or.inr (slot_ne (Or.inr (hw _ (List.mem_of_getElem? (i := 15) rfl))) (Or.inr (hw _ (List.mem_of_getElem? (i := 22) rfl))) (by decide) (t := (.array .boolean)) (t' := (.array .long)) (by decide) (by decide)))
  have f113 := f101.other W110 (Or.inr (slot_ne (Or.inr (hw _ (List.mem_of_getElem? (i := 18) rfl))) (Or.inr (hw _ (List.mem_of_getElem? (i := 22) rfl))) (by decide) (t := (.array .long)) (t' := (.array .long)) (by decide) (by decide)))
  have f114 := f102.other W110 (Or.inr (slot_ne (Or.inr (hw _ (List.mem_of_getElem? (i := 20) rfl))) (Or.inr (hw _ (List.mem_of_getElem? (i := 22) rfl))) (by decide) (t := (.array .long)) (t' := (.array .long)) (by decide) (by decide)))
  have f115 := f104.other W110 (Ne.symm ne3)
  have f116 := f105.other W110 (Ne.symm ne21)
  have f117 := f106.other W110 (Ne.symm ne42)
  have f118 := f107.other W110 (Ne.symm ne66)
  have f119 := f109.other W110 (Ne.symm ne93)
  have zz110 : n0 ≤ h110.size := Nat.le_trans zz92 (Nat.le_of_eq W110.size.symm)
  have N120 := Fr.snoc X110 N90 pg_a1
  have K121 : Keep h0 h110 [a1] := K108.wr W110 (Or.inl (List.mem_of_getElem? (i := 0) rfl))
  exact o_return X110 hx hret hlk (hb hby d_prog_1_method_1_code_39) (by decide) (by decide) e110 ⟨b2, k2, b20, k20, b41, k41, b65, k65, b92, k92, rfl, N120, K121, sz2, sz20, sz41, sz65, sz92, ne22, ne43, ne67, ne94, ne44, ne68, ne95, ne69, ne96, ne97, E_110, f111, f112, f113, f114, F110, f115, f116, f117, f118, f119⟩
theorem d_prog_1_method_2_code_0 : decode prog_1_method_2_code 0 = .ok (.aload_n 0, 1) := by decide +kernel
theorem d_prog_1_method_2_code_1 : decode prog_1_method_2_code 1 = .ok (.getfield 7, 3) := by decide +kernel
theorem d_prog_1_method_2_code_4 : decode prog_1_method_2_code 4 = .ok (.iload_n 1, 1) := by decide +kernel
theorem d_prog_1_method_2_code_5 : decode prog_1_method_2_code 5 = .ok (.iload_n 2, 1) := by decide +kernel
theorem d_prog_1_method_2_code_6 : decode prog_1_method_2_code 6 = .ok (.bastore, 1) := by decide +kernel
theorem d_prog_1_method_2_code_7 : decode prog_1_method_2_code 7 = .ok (.aload_n 0, 1) := by decide +kernel
theorem d_prog_1_method_2_code_8 : decode prog_1_method_2_code 8 = .ok (.getfield 13, 3) := by decide +kernel
theorem d_prog_1_method_2_code_11 : decode prog_1_method_2_code 11 = .ok (.iload_n 1, 1) := by decide +kernel
theorem d_prog_1_method_2_code_12 : decode prog_1_method_2_code 12 = .ok (.iload_n 3, 1) := by decide +kernel
theorem d_prog_1_method_2_code_13 : decode prog_1_method_2_code 13 = .ok (.bastore, 1) := by decide +kernel
theorem d_prog_1_method_2_code_14 : decode prog_1_method_2_code 14 = .ok (.aload_n 0, 1) := by decide +kernel
theorem d_prog_1_method_2_code_15 : decode prog_1_method_2_code 15 = .ok (.getfield 16, 3) := by decide +kernel
theorem d_prog_1_method_2_code_18 : decode prog_1_method_2_code 18 = .ok (.iload_n 1, 1) := by decide +kernel
theorem d_prog_1_method_2_code_19 : decode prog_1_method_2_code 19 = .ok (.lload 4, 2) := by decide +kernel
theorem d_prog_1_method_2_code_21 : decode prog_1_method_2_code 21 = .ok (.lastore, 1) := by decide +kernel
theorem d_prog_1_method_2_code_22 : decode prog_1_method_2_code 22 = .ok (.aload_n 0, 1) := by decide +kernel
theorem d_prog_1_method_2_code_23 : decode prog_1_method_2_code 23 = .ok (.getfield 20, 3) := by decide +kernel
theorem d_prog_1_method_2_code_26 : decode prog_1_method_2_code 26 = .ok (.iload_n 1, 1) := by decide +kernel
theorem d_prog_1_method_2_code_27 : decode prog_1_method_2_code 27 = .ok (.lload 6, 2) := by decide +kernel
theorem d_prog_1_method_2_code_29 : decode prog_1_method_2_code 29 = .ok (.lastore, 1) := by decide +kernel
theorem d_prog_1_method_2_code_30 : decode prog_1_method_2_code 30 = .ok (.aload_n 0, 1) := by decide +kernel
theorem d_prog_1_method_2_code_31 : decode prog_1_method_2_code 31 = .ok (.getfield 23, 3) := by decide +kernel
theorem d_prog_1_method_2_code_34 : decode prog_1_method_2_code 34 = .ok (.iload_n 1, 1) := by decide +kernel
theorem d_prog_1_method_2_code_35 : decode prog_1_method_2_code 35 = .ok (.lload 8, 2) := by decide +kernel
theorem d_prog_1_method_2_code_37 : decode prog_1_method_2_code 37 = .ok (.ldc2_w 28, 3) := by decide +kernel
theorem d_prog_1_method_2_code_40 : decode prog_1_method_2_code 40 = .ok (.lcmp, 1) := by decide +kernel
theorem d_prog_1_method_2_code_41 : decode prog_1_method_2_code 41 = .ok (.ifCond .ne 7, 3) := by decide +kernel
theorem d_prog_1_method_2_code_44 : decode prog_1_method_2_code 44 = .ok (.lconst 0, 1) := by decide +kernel
theorem d_prog_1_method_2_code_45 : decode prog_1_method_2_code 45 = .ok (.goto 5, 3) := by decide +kernel
theorem d_prog_1_method_2_code_50 : decode prog_1_method_2_code 50 = .ok (.lastore, 1) := by decide +kernel
theorem d_prog_1_method_2_code_51 : decode prog_1_method_2_code 51 = .ok (.return_, 1) := by decide +kernel
theorem d_prog_1_method_2_code_48 : decode prog_1_method_2_code 48 = .ok (.lload 8, 2) := by decide +kernel
theorem o_ef2 (m : MethodId) (a1 : Addr) (p1 : Int32) (p2 : Int32) (p3 : Int64) (p4 : Int64) (p5 : Int64) : entryFrame m #[(.ref a1), (.int (0 : Int32)), (.int p1), (.int p2), (.long p3), (.long p4), (.long p5)] 10 = mkF m 0 #[.val (.ref a1), .val (.int (0 : Int32)), .val (.int p1), .val (.int p2), .val (.long p3), .second, .val (.long p4), .second, .val (.long p5), .second] [] := by first | (simp [entryFrame, mkF, argsToLocals, Value.category]; done) | rfl
set_option maxRecDepth 65536 in
set_option maxHeartbeats 40000000 in
theorem c_set_0 (l : Launch) (Z : State) (a0 : Array Value) (hw : ∀ d ∈ tables_1, d.before a0 Z = true) (a1 : Addr) (y0 : Addr) (y1 : Addr) (y2 : Addr) (y3 : Addr) (y4 : Addr) (k0 : ClassId) (k1 : ClassId) (k2 : ClassId) (k3 : ClassId) (k4 : ClassId) (p1 : Int32) (p2 : Int32) (p3 : Int64) (p4 : Int64) (p5 : Int64) (u0_0 : Int32) (u0_1 : Int32) (u0_2 : Int32) (u1_0 : Int32) (u1_1 : Int32) (u1_2 : Int32) (u2_0 : Int64) (u2_1 : Int64) (u2_2 : Int64) (u3_0 : Int64) (u3_1 : Int64) (u3_2 : Int64) (u4_0 : Int64) (u4_1 : Int64) (u4_2 : Int64) (h0 : Heap) (n0 : Nat) (Z0 : n0 ≤ h0.size) (pg_y0 : n0 ≤ y0) (pg_y1 : n0 ≤ y1) (pg_y2 : n0 ≤ y2) (pg_y3 : n0 ≤ y3) (pg_y4 : n0 ≤ y4) (pF_a1_held : Fld Z h0 a1 "com/example/overbook_guard/overbookguard/gate/Counters" "held" "[Z" (.ref y0)) (pF_a1_counted : Fld Z h0 a1 "com/example/overbook_guard/overbookguard/gate/Counters" "counted" "[Z" (.ref y1)) (pF_a1_cores : Fld Z h0 a1 "com/example/overbook_guard/overbookguard/gate/Counters" "cores" "[J" (.ref y2)) (pF_a1_gpus : Fld Z h0 a1 "com/example/overbook_guard/overbookguard/gate/Counters" "gpus" "[J" (.ref y3)) (pF_a1_seq : Fld Z h0 a1 "com/example/overbook_guard/overbookguard/gate/Counters" "seq" "[J" (.ref y4)) (pV_y0 : Arv Z h0 y0 k0 .boolean (3 : Int32) [(.int u0_0), (.int u0_1), (.int u0_2)] (.int (0 : Int32))) (pV_y1 : Arv Z h0 y1 k1 .boolean (3 : Int32) [(.int u1_0), (.int u1_1), (.int u1_2)] (.int (0 : Int32))) (pV_y2 : Arv Z h0 y2 k2 .long (3 : Int32) [(.long u2_0), (.long u2_1), (.long u2_2)] (.long (0 : Int64))) (pV_y3 : Arv Z h0 y3 k3 .long (3 : Int32) [(.long u3_0), (.long u3_1), (.long u3_2)] (.long (0 : Int64))) (pV_y4 : Arv Z h0 y4 k4 .long (3 : Int32) [(.long u4_0), (.long u4_1), (.long u4_2)] (.long (0 : Int64))) (pne_a1_y0 : a1 ≠ y0) (pne_a1_y1 : a1 ≠ y1) (pne_a1_y2 : a1 ≠ y2) (pne_a1_y3 : a1 ≠ y3) (pne_a1_y4 : a1 ≠ y4) (pne_y0_y1 : y0 ≠ y1) (pne_y0_y2 : y0 ≠ y2) (pne_y0_y3 : y0 ≠ y3) (pne_y0_y4 : y0 ≠ y4) (pne_y1_y2 : y1 ≠ y2) (pne_y1_y3 : y1 ≠ y3) (pne_y1_y4 : y1 ≠ y4) (pne_y2_y3 : y2 ≠ y3) (pne_y2_y4 : y2 ≠ y4) (pne_y3_y4 : y3 ≠ y4) (hn1 : nar .boolean p1 = p1) (hn2 : nar .boolean p2 = p2) :
    Does l Z (⟨"com/example/overbook_guard/overbookguard/gate/Counters", "set", "(IZZJJJ)V"⟩ : MethodName) prog_1_method_2_code 10 none [] ({ frames := 0, cells := 0, slots := 0, locals := 0 } : Room) #[(.ref a1), (.int (0 : Int32)), (.int p1), (.int p2), (.long p3), (.long p4), (.long p5)] h0 (fun v h L => v = none ∧ Fr n0 L ∧ Keep h0 h [y0, y1, y2, y3, y4] ∧ Arv Z h y0 k0 .boolean (3 : Int32) [(.int p1), (.int u0_1), (.int u0_2)] (.int (0 : Int32)) ∧ Arv Z h y1 k1 .boolean (3 : Int32) [(.int p2), (.int u1_1), (.int u1_2)] (.int (0 : Int32)) ∧ Arv Z h y2 k2 .long (3 : Int32) [(.long p3), (.long u2_1), (.long u2_2)] (.long (0 : Int64)) ∧ Arv Z h y3 k3 .long (3 : Int32) [(.long p4), (.long u3_1), (.long u3_2)] (.long (0 : Int64)) ∧ Arv Z h y4 k4 .long (3 : Int32) [(.long (o_sq p5)), (.long u4_1), (.long u4_2)] (.long (0 : Int64))) := by
  refine Does.of (plainFor_of_name o_pn0) ?_
  intro p e s m below meth c T0 hx hby hml hown hnm hret hlk hZ X0 e0
  have hown : s.vm.findClass "com/example/overbook_guard/overbookguard/gate/Counters" = some m.cls := hown
  have hml : c.maxLocals = 10 := hml
  have hret : meth.sig.returnType = none := hret
  refine o_entry (o_ef2 m a1 p1 p2 p3 p4 p5) ?_
  have N0 := Fr.nil n0
  refine o_aloadN X0 hx (hb hby d_prog_1_method_2_code_0) (v := (.ref a1)) rfl rfl (n := 1) rfl ?_
  refine o_getfield X0 hx hZ hown (host := "") (Or.inl (hw _ (List.mem_of_getElem? (i := 12) rfl))) Via.refl e0 pF_a1_held (hb hby d_prog_1_method_2_code_1) (n := 4) rfl ?_
  intro T1 X1 e1
  refine o_iloadN X1 hx (hb hby d_prog_1_method_2_code_4) (v := (0 : Int32)) rfl (n := 5) rfl ?_
  refine o_iloadN X1 hx (hb hby d_prog_1_method_2_code_5) (v := p1) rfl (n := 6) rfl ?_
  refine o_bastoreZ X1 hx hZ e1 pV_y0 (0) (by decide) (by decide) (Nat.le_of_ble_eq_true rfl) (w := (.int p1)) (congrArg Value.int hn1) (vs' := [(.int p1), (.int u0_1), (.int u0_2)]) rfl (hb hby d_prog_1_method_2_code_6) (n := 7) rfl ?_
  intro T2 h2 X2 e2 W2 V2
  have f3 := pF_a1_held.other W2 (Or.inl pne_a1_y0)
  have f4 := pF_a1_counted.other W2 (Or.inl pne_a1_y0)
  have f5 := pF_a1_cores.other W2 (Or.inl pne_a1_y0)
  have f6 := pF_a1_gpus.other W2 (Or.inl pne_a1_y0)
  have f7 := pF_a1_seq.other W2 (Or.inl pne_a1_y0)
  have f8 := pV_y1.other W2 (Ne.symm pne_y0_y1)
  have f9 := pV_y2.other W2 (Ne.symm pne_y0_y2)
  have f10 := pV_y3.other W2 (Ne.symm pne_y0_y3)
  have f11 := pV_y4.other W2 (Ne.symm pne_y0_y4)
  have zz2 : n0 ≤ h2.size := Nat.le_trans Z0 (Nat.le_of_eq W2.size.symm)
  have N12 := Fr.snoc X2 N0 pg_y0
  have K13 : Keep h0 h2 [y0, y1, y2, y3, y4] := (Keep.refl h0 [y0, y1, y2, y3, y4]).wr W2 (Or.inl (List.mem_of_getElem? (i := 0) rfl))
  refine o_aloadN X2 hx (hb hby d_prog_1_method_2_code_7) (v := (.ref a1)) rfl rfl (n := 8) rfl ?_
  refine o_getfield X2 hx hZ hown (host := "") (Or.inl (hw _ (List.mem_of_getElem? (i := 14) rfl))) Via.refl e2 f4 (hb hby d_prog_1_method_2_code_8) (n := 11) rfl ?_
  intro T14 X14 e14
  refine o_iloadN X14 hx (hb hby d_prog_1_method_2_code_11) (v := (0 : Int32)) rfl (n := 12) rfl ?_
  refine o_iloadN X14 hx (hb hby d_prog_1_method_2_code_12) (v := p2) rfl (n := 13) rfl ?_
  refine o_bastoreZ X14 hx hZ e14 f8 (0) (by decide) (by decide) (Nat.le_of_ble_eq_true rfl) (w := (.int p2)) (congrArg Value.int hn2) (vs' := [(.int p2), (.int u1_1), (.int u1_2)]) rfl (hb hby d_prog_1_method_2_code_13) (n := 14) rfl ?_
  intro T15 h15 X15 e15 W15 V15
  have f16 := f3.other W15 (Or.inl pne_a1_y1)
  have f17 := f4.other W15 (Or.inl pne_a1_y1)
  have f18 := f5.other W15 (Or.inl pne_a1_y1)
  have f19 := f6.other W15 (Or.inl pne_a1_y1)
  have f20 := f7.other W15 (Or.inl pne_a1_y1)
  have f21 := V2.other W15 pne_y0_y1
  have f22 := f9.other W15 (Ne.symm pne_y1_y2)
  have f23 := f10.other W15 (Ne.symm pne_y1_y3)
  have f24 := f11.other W15 (Ne.symm pne_y1_y4)
  have zz15 : n0 ≤ h15.size := Nat.le_trans zz2 (Nat.le_of_eq W15.size.symm)
  have N25 := Fr.snoc X15 N12 pg_y1
  have K26 : Keep h0 h15 [y0, y1, y2, y3, y4] := K13.wr W15 (Or.inl (List.mem_of_getElem? (i := 1) rfl))
  refine o_aloadN X15 hx (hb hby d_prog_1_method_2_code_14) (v := (.ref a1)) rfl rfl (n := 15) rfl ?_
  refine o_getfield X15 hx hZ hown (host := "") (Or.inl (hw _ (List.mem_of_getElem? (i := 17) rfl))) Via.refl e15 f18 (hb hby d_prog_1_method_2_code_15) (n := 18) rfl ?_
  intro T27 X27 e27
  refine o_iloadN X27 hx (hb hby d_prog_1_method_2_code_18) (v := (0 : Int32)) rfl (n := 19) rfl ?_
  refine o_lload X27 hx (hb hby d_prog_1_method_2_code_19) (v := p3) rfl (n := 21) rfl ?_
  refine o_lastore X27 hx hZ e27 f22 (0) (by decide) (by decide) (Nat.le_of_ble_eq_true rfl) (w := (.long p3)) rfl (vs' := [(.long p3), (.long u2_1), (.long u2_2)]) rfl (hb hby d_prog_1_method_2_code_21) (n := 22) rfl ?_
  intro T28 h28 X28 e28 W28 V28
  have f29 := f16.other W28 (Or.inl pne_a1_y2)
  have f30 := f17.other W28 (Or.inl pne_a1_y2)
  have f31 := f18.other W28 (Or.inl pne_a1_y2)
  have f32 := f19.other W28 (Or.inl pne_a1_y2)
  have f33 := f20.other W28 (Or.inl pne_a1_y2)
  have f34 := f21.other W28 pne_y0_y2
  have f35 := V15.other W28 pne_y1_y2
  have f36 := f23.other W28 (Ne.symm pne_y2_y3)
  have f37 := f24.other W28 (Ne.symm pne_y2_y4)
  have zz28 : n0 ≤ h28.size := Nat.le_trans zz15 (Nat.le_of_eq W28.size.symm)
  have N38 := Fr.snoc X28 N25 pg_y2
  have K39 : Keep h0 h28 [y0, y1, y2, y3, y4] := K26.wr W28 (Or.inl (List.mem_of_getElem? (i := 2) rfl))
  refine o_aloadN X28 hx (hb hby d_prog_1_method_2_code_22) (v := (.ref a1)) rfl rfl (n := 23) rfl ?_
  refine o_getfield X28 hx hZ hown (host := "") (Or.inl (hw _ (List.mem_of_getElem? (i := 19) rfl))) Via.refl e28 f32 (hb hby d_prog_1_method_2_code_23) (n := 26) rfl ?_
  intro T40 X40 e40
  refine o_iloadN X40 hx (hb hby d_prog_1_method_2_code_26) (v := (0 : Int32)) rfl (n := 27) rfl ?_
  refine o_lload X40 hx (hb hby d_prog_1_method_2_code_27) (v := p4) rfl (n := 29) rfl ?_
  refine o_lastore X40 hx hZ e40 f36 (0) (by decide) (by decide) (Nat.le_of_ble_eq_true rfl) (w := (.long p4)) rfl (vs' := [(.long p4), (.long u3_1), (.long u3_2)]) rfl (hb hby d_prog_1_method_2_code_29) (n := 30) rfl ?_
  intro T41 h41 X41 e41 W41 V41
  have f42 := f29.other W41 (Or.inl pne_a1_y3)
  have f43 := f30.other W41 (Or.inl pne_a1_y3)
  have f44 := f31.other W41 (Or.inl pne_a1_y3)
  have f45 := f32.other W41 (Or.inl pne_a1_y3)
  have f46 := f33.other W41 (Or.inl pne_a1_y3)
  have f47 := f34.other W41 pne_y0_y3
  have f48 := f35.other W41 pne_y1_y3
  have f49 := V28.other W41 pne_y2_y3
  have f50 := f37.other W41 (Ne.symm pne_y3_y4)
  have zz41 : n0 ≤ h41.size := Nat.le_trans zz28 (Nat.le_of_eq W41.size.symm)
  have N51 := Fr.snoc X41 N38 pg_y3
  have K52 : Keep h0 h41 [y0, y1, y2, y3, y4] := K39.wr W41 (Or.inl (List.mem_of_getElem? (i := 3) rfl))
  refine o_aloadN X41 hx (hb hby d_prog_1_method_2_code_30) (v := (.ref a1)) rfl rfl (n := 31) rfl ?_
  refine o_getfield X41 hx hZ hown (host := "") (Or.inl (hw _ (List.mem_of_getElem? (i := 21) rfl))) Via.refl e41 f46 (hb hby d_prog_1_method_2_code_31) (n := 34) rfl ?_
  intro T53 X53 e53
  refine o_iloadN X53 hx (hb hby d_prog_1_method_2_code_34) (v := (0 : Int32)) rfl (n := 35) rfl ?_
  refine o_lload X53 hx (hb hby d_prog_1_method_2_code_35) (v := p5) rfl (n := 37) rfl ?_
  refine o_ldc2_w X53 hx hZ (v := (-9223372036854775808 : Int64)) hown (hw _ (List.mem_of_getElem? (i := 29) rfl)) (hb hby d_prog_1_method_2_code_37) (n := 40) rfl ?_
  refine o_lcmp X53 hx (hb hby d_prog_1_method_2_code_40) (n := 41) rfl ?_
  by_cases hc41 : p5 = (-9223372036854775808 : Int64)
  · refine o_ifN X53 hx (hb hby d_prog_1_method_2_code_41) (XT.ll_ne_f hc41) (n := 44) rfl ?_
    refine o_lconst X53 hx (hb hby d_prog_1_method_2_code_44) (v := (0 : Int64)) rfl (n := 45) rfl ?_
    refine o_goto X53 hx (hb hby d_prog_1_method_2_code_45) (by decide) (n := 50) (by decide) ?_
    refine o_lastore X53 hx hZ e53 f50 (0) (by decide) (by decide) (Nat.le_of_ble_eq_true rfl) (w := (.long (o_sq p5))) (congrArg Value.long (show (0 : Int64) = o_sq p5 by simp [o_sq, hc41])) (vs' := [(.long (o_sq p5)), (.long u4_1), (.long u4_2)]) rfl (hb hby d_prog_1_method_2_code_50) (n := 51) rfl ?_
    intro T54 h54 X54 e54 W54 V54
    have f55 := f42.other W54 (Or.inl pne_a1_y4)
    have f56 := f43.other W54 (Or.inl pne_a1_y4)
    have f57 := f44.other W54 (Or.inl pne_a1_y4)
    have f58 := f45.other W54 (Or.inl pne_a1_y4)
    have f59 := f46.other W54 (Or.inl pne_a1_y4)
    have f60 := f47.other W54 pne_y0_y4
    have f61 := f48.other W54 pne_y1_y4
    have f62 := f49.other W54 pne_y2_y4
    have f63 := V41.other W54 pne_y3_y4
    have zz54 : n0 ≤ h54.size := Nat.le_trans zz41 (Nat.le_of_eq W54.size.symm)
    have N64 := Fr.snoc X54 N51 pg_y4
    have K65 : Keep h0 h54 [y0, y1, y2, y3, y4] := K52.wr W54 (Or.inl (List.mem_of_getElem? (i := 4) rfl))
    exact o_return X54 hx hret hlk (hb hby d_prog_1_method_2_code_51) (by decide) (by decide) e54 ⟨rfl, N64, K65, f60, f61, f62, f63, V54⟩
  · refine o_ifY X53 hx (hb hby d_prog_1_method_2_code_41) (XT.ll_ne_t hc41) (by decide) (n := 48) (by decide) ?_
    refine o_lload X53 hx (hb hby d_prog_1_method_2_code_48) (v := p5) rfl (n := 50) rfl ?_
    refine o_lastore X53 hx hZ e53 f50 (0) (by decide) (by decide) (Nat.le_of_ble_eq_true rfl) (w := (.long (o_sq p5))) (congrArg Value.long (show p5 = o_sq p5 by simp [o_sq, hc41])) (vs' := [(.long (o_sq p5)), (.long u4_1), (.long u4_2)]) rfl (hb hby d_prog_1_method_2_code_50) (n := 51) rfl ?_
    intro T66 h66 X66 e66 W66 V66
    have f67 := f42.other W66 (Or.inl pne_a1_y4)
    have f68 := f43.other W66 (Or.inl pne_a1_y4)
    have f69 := f44.other W66 (Or.inl pne_a1_y4)
    have f70 := f45.other W66 (Or.inl pne_a1_y4)
    have f71 := f46.other W66 (Or.inl pne_a1_y4)
    have f72 := f47.other W66 pne_y0_y4
    have f73 := f48.other W66 pne_y1_y4
    have f74 := f49.other W66 pne_y2_y4
    have f75 := V41.other W66 pne_y3_y4
    have zz66 : n0 ≤ h66.size := Nat.le_trans zz41 (Nat.le_of_eq W66.size.symm)
    have N76 := Fr.snoc X66 N51 pg_y4
    have K77 : Keep h0 h66 [y0, y1, y2, y3, y4] := K52.wr W66 (Or.inl (List.mem_of_getElem? (i := 4) rfl))
    exact o_return X66 hx hret hlk (hb hby d_prog_1_method_2_code_51) (by decide) (by decide) e66 ⟨rfl, N76, K77, f72, f73, f74, f75, V66⟩
theorem o_ef3 (m : MethodId) (a1 : Addr) (p1 : Int32) (p2 : Int32) (p3 : Int64) (p4 : Int64) (p5 : Int64) : entryFrame m #[(.ref a1), (.int (1 : Int32)), (.int p1), (.int p2), (.long p3), (.long p4), (.long p5)] 10 = mkF m 0 #[.val (.ref a1), .val (.int (1 : Int32)), .val (.int p1), .val (.int p2), .val (.long p3), .second, .val (.long p4), .second, .val (.long p5), .second] [] := by first | (simp [entryFrame, mkF, argsToLocals, Value.category]; done) | rfl
set_option maxRecDepth 65536 in
set_option maxHeartbeats 40000000 in
theorem c_set_1 (l : Launch) (Z : State) (a0 : Array Value) (hw : ∀ d ∈ tables_1, d.before a0 Z = true) (a1 : Addr) (y0 : Addr) (y1 : Addr) (y2 : Addr) (y3 : Addr) (y4 : Addr) (k0 : ClassId) (k1 : ClassId) (k2 : ClassId) (k3 : ClassId) (k4 : ClassId) (p1 : Int32) (p2 : Int32) (p3 : Int64) (p4 : Int64) (p5 : Int64) (u0_0 : Int32) (u0_1 : Int32) (u0_2 : Int32) (u1_0 : Int32) (u1_1 : Int32) (u1_2 : Int32) (u2_0 : Int64) (u2_1 : Int64) (u2_2 : Int64) (u3_0 : Int64) (u3_1 : Int64) (u3_2 : Int64) (u4_0 : Int64) (u4_1 : Int64) (u4_2 : Int64) (h0 : Heap) (n0 : Nat) (Z0 : n0 ≤ h0.size) (pg_y0 : n0 ≤ y0) (pg_y1 : n0 ≤ y1) (pg_y2 : n0 ≤ y2) (pg_y3 : n0 ≤ y3) (pg_y4 : n0 ≤ y4) (pF_a1_held : Fld Z h0 a1 "com/example/overbook_guard/overbookguard/gate/Counters" "held" "[Z" (.ref y0)) (pF_a1_counted : Fld Z h0 a1 "com/example/overbook_guard/overbookguard/gate/Counters" "counted" "[Z" (.ref y1)) (pF_a1_cores : Fld Z h0 a1 "com/example/overbook_guard/overbookguard/gate/Counters" "cores" "[J" (.ref y2)) (pF_a1_gpus : Fld Z h0 a1 "com/example/overbook_guard/overbookguard/gate/Counters" "gpus" "[J" (.ref y3)) (pF_a1_seq : Fld Z h0 a1 "com/example/overbook_guard/overbookguard/gate/Counters" "seq" "[J" (.ref y4)) (pV_y0 : Arv Z h0 y0 k0 .boolean (3 : Int32) [(.int u0_0), (.int u0_1), (.int u0_2)] (.int (0 : Int32))) (pV_y1 : Arv Z h0 y1 k1 .boolean (3 : Int32) [(.int u1_0), (.int u1_1), (.int u1_2)] (.int (0 : Int32))) (pV_y2 : Arv Z h0 y2 k2 .long (3 : Int32) [(.long u2_0), (.long u2_1), (.long u2_2)] (.long (0 : Int64))) (pV_y3 : Arv Z h0 y3 k3 .long (3 : Int32) [(.long u3_0), (.long u3_1), (.long u3_2)] (.long (0 : Int64))) (pV_y4 : Arv Z h0 y4 k4 .long (3 : Int32) [(.long u4_0), (.long u4_1), (.long u4_2)] (.long (0 : Int64))) (pne_a1_y0 : a1 ≠ y0) (pne_a1_y1 : a1 ≠ y1) (pne_a1_y2 : a1 ≠ y2) (pne_a1_y3 : a1 ≠ y3) (pne_a1_y4 : a1 ≠ y4) (pne_y0_y1 : y0 ≠ y1) (pne_y0_y2 : y0 ≠ y2) (pne_y0_y3 : y0 ≠ y3) (pne_y0_y4 : y0 ≠ y4) (pne_y1_y2 : y1 ≠ y2) (pne_y1_y3 : y1 ≠ y3) (pne_y1_y4 : y1 ≠ y4) (pne_y2_y3 : y2 ≠ y3) (pne_y2_y4 : y2 ≠ y4) (pne_y3_y4 : y3 ≠ y4) (hn1 : nar .boolean p1 = p1) (hn2 : nar .boolean p2 = p2) :
    Does l Z (⟨"com/example/overbook_guard/overbookguard/gate/Counters", "set", "(IZZJJJ)V"⟩ : MethodName) prog_1_method_2_code 10 none [] ({ frames := 0, cells := 0, slots := 0, locals := 0 } : Room) #[(.ref a1), (.int (1 : Int32)), (.int p1), (.int p2), (.long p3), (.long p4), (.long p5)] h0 (fun v h L => v = none ∧ Fr n0 L ∧ Keep h0 h [y0, y1, y2, y3, y4] ∧ Arv Z h y0 k0 .boolean (3 : Int32) [(.int u0_0), (.int p1), (.int u0_2)] (.int (0 : Int32)) ∧ Arv Z h y1 k1 .boolean (3 : Int32) [(.int u1_0), (.int p2), (.int u1_2)] (.int (0 : Int32)) ∧ Arv Z h y2 k2 .long (3 : Int32) [(.long u2_0), (.long p3), (.long u2_2)] (.long (0 : Int64)) ∧ Arv Z h y3 k3 .long (3 : Int32) [(.long u3_0), (.long p4), (.long u3_2)] (.long (0 : Int64)) ∧ Arv Z h y4 k4 .long (3 : Int32) [(.long u4_0), (.long (o_sq p5)), (.long u4_2)] (.long (0 : Int64))) := by
  refine Does.of (plainFor_of_name o_pn0) ?_
  intro p e s m below meth c T0 hx hby hml hown hnm hret hlk hZ X0 e0
  have hown : s.vm.findClass "com/example/overbook_guard/overbookguard/gate/Counters" = some m.cls := hown
  have hml : c.maxLocals = 10 := hml
  have hret : meth.sig.returnType = none := hret
  refine o_entry (o_ef3 m a1 p1 p2 p3 p4 p5) ?_
  have N0 := Fr.nil n0
  refine o_aloadN X0 hx (hb hby d_prog_1_method_2_code_0) (v := (.ref a1)) rfl rfl (n := 1) rfl ?_
  refine o_getfield X0 hx hZ hown (host := "") (Or.inl (hw _ (List.mem_of_getElem? (i := 12) rfl))) Via.refl e0 pF_a1_held (hb hby d_prog_1_method_2_code_1) (n := 4) rfl ?_
  intro T1 X1 e1
  refine o_iloadN X1 hx (hb hby d_prog_1_method_2_code_4) (v := (1 : Int32)) rfl (n := 5) rfl ?_
  refine o_iloadN X1 hx (hb hby d_prog_1_method_2_code_5) (v := p1) rfl (n := 6) rfl ?_
  refine o_bastoreZ X1 hx hZ e1 pV_y0 (1) (by decide) (by decide) (Nat.le_of_ble_eq_true rfl) (w := (.int p1)) (congrArg Value.int hn1) (vs' := [(.int u0_0), (.int p1), (.int u0_2)]) rfl (hb hby d_prog_1_method_2_code_6) (n := 7) rfl ?_
  intro T2 h2 X2 e2 W2 V2
  have f3 := pF_a1_held.other W2 (Or.inl pne_a1_y0)
  have f4 := pF_a1_counted.other W2 (Or.inl pne_a1_y0)
  have f5 := pF_a1_cores.other W2 (Or.inl pne_a1_y0)
  have f6 := pF_a1_gpus.other W2 (Or.inl pne_a1_y0)
  have f7 := pF_a1_seq.other W2 (Or.inl pne_a1_y0)
  have f8 := pV_y1.other W2 (Ne.symm pne_y0_y1)
  have f9 := pV_y2.other W2 (Ne.symm pne_y0_y2)
  have f10 := pV_y3.other W2 (Ne.symm pne_y0_y3)
  have f11 := pV_y4.other W2 (Ne.symm pne_y0_y4)
  have zz2 : n0 ≤ h2.size := Nat.le_trans Z0 (Nat.le_of_eq W2.size.symm)
  have N12 := Fr.snoc X2 N0 pg_y0
  have K13 : Keep h0 h2 [y0, y1, y2, y3, y4] := (Keep.refl h0 [y0, y1, y2, y3, y4]).wr W2 (Or.inl (List.mem_of_getElem? (i := 0) rfl))
  refine o_aloadN X2 hx (hb hby d_prog_1_method_2_code_7) (v := (.ref a1)) rfl rfl (n := 8) rfl ?_
  refine o_getfield X2 hx hZ hown (host := "") (Or.inl (hw _ (List.mem_of_getElem? (i := 14) rfl))) Via.refl e2 f4 (hb hby d_prog_1_method_2_code_8) (n := 11) rfl ?_
  intro T14 X14 e14
  refine o_iloadN X14 hx (hb hby d_prog_1_method_2_code_11) (v := (1 : Int32)) rfl (n := 12) rfl ?_
  refine o_iloadN X14 hx (hb hby d_prog_1_method_2_code_12) (v := p2) rfl (n := 13) rfl ?_
  refine o_bastoreZ X14 hx hZ e14 f8 (1) (by decide) (by decide) (Nat.le_of_ble_eq_true rfl) (w := (.int p2)) (congrArg Value.int hn2) (vs' := [(.int u1_0), (.int p2), (.int u1_2)]) rfl (hb hby d_prog_1_method_2_code_13) (n := 14) rfl ?_
  intro T15 h15 X15 e15 W15 V15
  have f16 := f3.other W15 (Or.inl pne_a1_y1)
  have f17 := f4.other W15 (Or.inl pne_a1_y1)
  have f18 := f5.other W15 (Or.inl pne_a1_y1)
  have f19 := f6.other W15 (Or.inl pne_a1_y1)
  have f20 := f7.other W15 (Or.inl pne_a1_y1)
  have f21 := V2.other W15 pne_y0_y1
  have f22 := f9.other W15 (Ne.symm pne_y1_y2)
  have f23 := f10.other W15 (Ne.symm pne_y1_y3)
  have f24 := f11.other W15 (Ne.symm pne_y1_y4)
  have zz15 : n0 ≤ h15.size := Nat.le_trans zz2 (Nat.le_of_eq W15.size.symm)
  have N25 := Fr.snoc X15 N12 pg_y1
  have K26 : Keep h0 h15 [y0, y1, y2, y3, y4] := K13.wr W15 (Or.inl (List.mem_of_getElem? (i := 1) rfl))
  refine o_aloadN X15 hx (hb hby d_prog_1_method_2_code_14) (v := (.ref a1)) rfl rfl (n := 15) rfl ?_
  refine o_getfield X15 hx hZ hown (host := "") (Or.inl (hw _ (List.mem_of_getElem? (i := 17) rfl))) Via.refl e15 f18 (hb hby d_prog_1_method_2_code_15) (n := 18) rfl ?_
  intro T27 X27 e27
  refine o_iloadN X27 hx (hb hby d_prog_1_method_2_code_18) (v := (1 : Int32)) rfl (n := 19) rfl ?_
  refine o_lload X27 hx (hb hby d_prog_1_method_2_code_19) (v := p3) rfl (n := 21) rfl ?_
  refine o_lastore X27 hx hZ e27 f22 (1) (by decide) (by decide) (Nat.le_of_ble_eq_true rfl) (w := (.long p3)) rfl (vs' := [(.long u2_0), (.long p3), (.long u2_2)]) rfl (hb hby d_prog_1_method_2_code_21) (n := 22) rfl ?_
  intro T28 h28 X28 e28 W28 V28
  have f29 := f16.other W28 (Or.inl pne_a1_y2)
  have f30 := f17.other W28 (Or.inl pne_a1_y2)
  have f31 := f18.other W28 (Or.inl pne_a1_y2)
  have f32 := f19.other W28 (Or.inl pne_a1_y2)
  have f33 := f20.other W28 (Or.inl pne_a1_y2)
  have f34 := f21.other W28 pne_y0_y2
  have f35 := V15.other W28 pne_y1_y2
  have f36 := f23.other W28 (Ne.symm pne_y2_y3)
  have f37 := f24.other W28 (Ne.symm pne_y2_y4)
  have zz28 : n0 ≤ h28.size := Nat.le_trans zz15 (Nat.le_of_eq W28.size.symm)
  have N38 := Fr.snoc X28 N25 pg_y2
  have K39 : Keep h0 h28 [y0, y1, y2, y3, y4] := K26.wr W28 (Or.inl (List.mem_of_getElem? (i := 2) rfl))
  refine o_aloadN X28 hx (hb hby d_prog_1_method_2_code_22) (v := (.ref a1)) rfl rfl (n := 23) rfl ?_
  refine o_getfield X28 hx hZ hown (host := "") (Or.inl (hw _ (List.mem_of_getElem? (i := 19) rfl))) Via.refl e28 f32 (hb hby d_prog_1_method_2_code_23) (n := 26) rfl ?_
  intro T40 X40 e40
  refine o_iloadN X40 hx (hb hby d_prog_1_method_2_code_26) (v := (1 : Int32)) rfl (n := 27) rfl ?_
  refine o_lload X40 hx (hb hby d_prog_1_method_2_code_27) (v := p4) rfl (n := 29) rfl ?_
  refine o_lastore X40 hx hZ e40 f36 (1) (by decide) (by decide) (Nat.le_of_ble_eq_true rfl) (w := (.long p4)) rfl (vs' := [(.long u3_0), (.long p4), (.long u3_2)]) rfl (hb hby d_prog_1_method_2_code_29) (n := 30) rfl ?_
  intro T41 h41 X41 e41 W41 V41
  have f42 := f29.other W41 (Or.inl pne_a1_y3)
  have f43 := f30.other W41 (Or.inl pne_a1_y3)
  have f44 := f31.other W41 (Or.inl pne_a1_y3)
  have f45 := f32.other W41 (Or.inl pne_a1_y3)
  have f46 := f33.other W41 (Or.inl pne_a1_y3)
  have f47 := f34.other W41 pne_y0_y3
  have f48 := f35.other W41 pne_y1_y3
  have f49 := V28.other W41 pne_y2_y3
  have f50 := f37.other W41 (Ne.symm pne_y3_y4)
  have zz41 : n0 ≤ h41.size := Nat.le_trans zz28 (Nat.le_of_eq W41.size.symm)
  have N51 := Fr.snoc X41 N38 pg_y3
  have K52 : Keep h0 h41 [y0, y1, y2, y3, y4] := K39.wr W41 (Or.inl (List.mem_of_getElem? (i := 3) rfl))
  refine o_aloadN X41 hx (hb hby d_prog_1_method_2_code_30) (v := (.ref a1)) rfl rfl (n := 31) rfl ?_
  refine o_getfield X41 hx hZ hown (host := "") (Or.inl (hw _ (List.mem_of_getElem? (i := 21) rfl))) Via.refl e41 f46 (hb hby d_prog_1_method_2_code_31) (n := 34) rfl ?_
  intro T53 X53 e53
  refine o_iloadN X53 hx (hb hby d_prog_1_method_2_code_34) (v := (1 : Int32)) rfl (n := 35) rfl ?_
  refine o_lload X53 hx (hb hby d_prog_1_method_2_code_35) (v := p5) rfl (n := 37) rfl ?_
  refine o_ldc2_w X53 hx hZ (v := (-9223372036854775808 : Int64)) hown (hw _ (List.mem_of_getElem? (i := 29) rfl)) (hb hby d_prog_1_method_2_code_37) (n := 40) rfl ?_
  refine o_lcmp X53 hx (hb hby d_prog_1_method_2_code_40) (n := 41) rfl ?_
  by_cases hc41 : p5 = (-9223372036854775808 : Int64)
  · refine o_ifN X53 hx (hb hby d_prog_1_method_2_code_41) (XT.ll_ne_f hc41) (n := 44) rfl ?_
    refine o_lconst X53 hx (hb hby d_prog_1_method_2_code_44) (v := (0 : Int64)) rfl (n := 45) rfl ?_
    refine o_goto X53 hx (hb hby d_prog_1_method_2_code_45) (by decide) (n := 50) (by decide) ?_
    refine o_lastore X53 hx hZ e53 f50 (1) (by decide) (by decide) (Nat.le_of_ble_eq_true rfl) (w := (.long (o_sq p5))) (congrArg Value.long (show (0 : Int64) = o_sq p5 by simp [o_sq, hc41])) (vs' := [(.long u4_0), (.long (o_sq p5)), (.long u4_2)]) rfl (hb hby d_prog_1_method_2_code_50) (n := 51) rfl ?_
    intro T54 h54 X54 e54 W54 V54
    have f55 := f42.other W54 (Or.inl pne_a1_y4)
    have f56 := f43.other W54 (Or.inl pne_a1_y4)
    have f57 := f44.other W54 (Or.inl pne_a1_y4)
    have f58 := f45.other W54 (Or.inl pne_a1_y4)
    have f59 := f46.other W54 (Or.inl pne_a1_y4)
    have f60 := f47.other W54 pne_y0_y4
    have f61 := f48.other W54 pne_y1_y4
    have f62 := f49.other W54 pne_y2_y4
    have f63 := V41.other W54 pne_y3_y4
    have zz54 : n0 ≤ h54.size := Nat.le_trans zz41 (Nat.le_of_eq W54.size.symm)
    have N64 := Fr.snoc X54 N51 pg_y4
    have K65 : Keep h0 h54 [y0, y1, y2, y3, y4] := K52.wr W54 (Or.inl (List.mem_of_getElem? (i := 4) rfl))
    exact o_return X54 hx hret hlk (hb hby d_prog_1_method_2_code_51) (by decide) (by decide) e54 ⟨rfl, N64, K65, f60, f61, f62, f63, V54⟩
  · refine o_ifY X53 hx (hb hby d_prog_1_method_2_code_41) (XT.ll_ne_t hc41) (by decide) (n := 48) (by decide) ?_
    refine o_lload X53 hx (hb hby d_prog_1_method_2_code_48) (v := p5) rfl (n := 50) rfl ?_
    refine o_lastore X53 hx hZ e53 f50 (1) (by decide) (by decide) (Nat.le_of_ble_eq_true rfl) (w := (.long (o_sq p5))) (congrArg Value.long (show p5 = o_sq p5 by simp [o_sq, hc41])) (vs' := [(.long u4_0), (.long (o_sq p5)), (.long u4_2)]) rfl (hb hby d_prog_1_method_2_code_50) (n := 51) rfl ?_
    intro T66 h66 X66 e66 W66 V66
    have f67 := f42.other W66 (Or.inl pne_a1_y4)
    have f68 := f43.other W66 (Or.inl pne_a1_y4)
    have f69 := f44.other W66 (Or.inl pne_a1_y4)
    have f70 := f45.other W66 (Or.inl pne_a1_y4)
    have f71 := f46.other W66 (Or.inl pne_a1_y4)
    have f72 := f47.other W66 pne_y0_y4
    have f73 := f48.other W66 pne_y1_y4
    have f74 := f49.other W66 pne_y2_y4
    have f75 := V41.other W66 pne_y3_y4
    have zz66 : n0 ≤ h66.size := Nat.le_trans zz41 (Nat.le_of_eq W66.size.symm)
    have N76 := Fr.snoc X66 N51 pg_y4
    have K77 : Keep h0 h66 [y0, y1, y2, y3, y4] := K52.wr W66 (Or.inl (List.mem_of_getElem? (i := 4) rfl))
    exact o_return X66 hx hret hlk (hb hby d_prog_1_method_2_code_51) (by decide) (by decide) e66 ⟨rfl, N76, K77, f72, f73, f74, f75, V66⟩
theorem o_ef4 (m : MethodId) (a1 : Addr) (p1 : Int32) (p2 : Int32) (p3 : Int64) (p4 : Int64) (p5 : Int64) : entryFrame m #[(.ref a1), (.int (2 : Int32)), (.int p1), (.int p2), (.long p3), (.long p4), (.long p5)] 10 = mkF m 0 #[.val (.ref a1), .val (.int (2 : Int32)), .val (.int p1), .val (.int p2), .val (.long p3), .second, .val (.long p4), .second, .val (.long p5), .second] [] := by first | (simp [entryFrame, mkF, argsToLocals, Value.category]; done) | rfl
set_option maxRecDepth 65536 in
set_option maxHeartbeats 40000000 in
theorem c_set_2 (l : Launch) (Z : State) (a0 : Array Value) (hw : ∀ d ∈ tables_1, d.before a0 Z = true) (a1 : Addr) (y0 : Addr) (y1 : Addr) (y2 : Addr) (y3 : Addr) (y4 : Addr) (k0 : ClassId) (k1 : ClassId) (k2 : ClassId) (k3 : ClassId) (k4 : ClassId) (p1 : Int32) (p2 : Int32) (p3 : Int64) (p4 : Int64) (p5 : Int64) (u0_0 : Int32) (u0_1 : Int32) (u0_2 : Int32) (u1_0 : Int32) (u1_1 : Int32) (u1_2 : Int32) (u2_0 : Int64) (u2_1 : Int64) (u2_2 : Int64) (u3_0 : Int64) (u3_1 : Int64) (u3_2 : Int64) (u4_0 : Int64) (u4_1 : Int64) (u4_2 : Int64) (h0 : Heap) (n0 : Nat) (Z0 : n0 ≤ h0.size) (pg_y0 : n0 ≤ y0) (pg_y1 : n0 ≤ y1) (pg_y2 : n0 ≤ y2) (pg_y3 : n0 ≤ y3) (pg_y4 : n0 ≤ y4) (pF_a1_held : Fld Z h0 a1 "com/example/overbook_guard/overbookguard/gate/Counters" "held" "[Z" (.ref y0)) (pF_a1_counted : Fld Z h0 a1 "com/example/overbook_guard/overbookguard/gate/Counters" "counted" "[Z" (.ref y1)) (pF_a1_cores : Fld Z h0 a1 "com/example/overbook_guard/overbookguard/gate/Counters" "cores" "[J" (.ref y2)) (pF_a1_gpus : Fld Z h0 a1 "com/example/overbook_guard/overbookguard/gate/Counters" "gpus" "[J" (.ref y3)) (pF_a1_seq : Fld Z h0 a1 "com/example/overbook_guard/overbookguard/gate/Counters" "seq" "[J" (.ref y4)) (pV_y0 : Arv Z h0 y0 k0 .boolean (3 : Int32) [(.int u0_0), (.int u0_1), (.int u0_2)] (.int (0 : Int32))) (pV_y1 : Arv Z h0 y1 k1 .boolean (3 : Int32) [(.int u1_0), (.int u1_1), (.int u1_2)] (.int (0 : Int32))) (pV_y2 : Arv Z h0 y2 k2 .long (3 : Int32) [(.long u2_0), (.long u2_1), (.long u2_2)] (.long (0 : Int64))) (pV_y3 : Arv Z h0 y3 k3 .long (3 : Int32) [(.long u3_0), (.long u3_1), (.long u3_2)] (.long (0 : Int64))) (pV_y4 : Arv Z h0 y4 k4 .long (3 : Int32) [(.long u4_0), (.long u4_1), (.long u4_2)] (.long (0 : Int64))) (pne_a1_y0 : a1 ≠ y0) (pne_a1_y1 : a1 ≠ y1) (pne_a1_y2 : a1 ≠ y2) (pne_a1_y3 : a1 ≠ y3) (pne_a1_y4 : a1 ≠ y4) (pne_y0_y1 : y0 ≠ y1) (pne_y0_y2 : y0 ≠ y2) (pne_y0_y3 : y0 ≠ y3) (pne_y0_y4 : y0 ≠ y4) (pne_y1_y2 : y1 ≠ y2) (pne_y1_y3 : y1 ≠ y3) (pne_y1_y4 : y1 ≠ y4) (pne_y2_y3 : y2 ≠ y3) (pne_y2_y4 : y2 ≠ y4) (pne_y3_y4 : y3 ≠ y4) (hn1 : nar .boolean p1 = p1) (hn2 : nar .boolean p2 = p2) :
    Does l Z (⟨"com/example/overbook_guard/overbookguard/gate/Counters", "set", "(IZZJJJ)V"⟩ : MethodName) prog_1_method_2_code 10 none [] ({ frames := 0, cells := 0, slots := 0, locals := 0 } : Room) #[(.ref a1), (.int (2 : Int32)), (.int p1), (.int p2), (.long p3), (.long p4), (.long p5)] h0 (fun v h L => v = none ∧ Fr n0 L ∧ Keep h0 h [y0, y1, y2, y3, y4] ∧ Arv Z h y0 k0 .boolean (3 : Int32) [(.int u0_0), (.int u0_1), (.int p1)] (.int (0 : Int32)) ∧ Arv Z h y1 k1 .boolean (3 : Int32) [(.int u1_0), (.int u1_1), (.int p2)] (.int (0 : Int32)) ∧ Arv Z h y2 k2 .long (3 : Int32) [(.long u2_0), (.long u2_1), (.long p3)] (.long (0 : Int64)) ∧ Arv Z h y3 k3 .long (3 : Int32) [(.long u3_0), (.long u3_1), (.long p4)] (.long (0 : Int64)) ∧ Arv Z h y4 k4 .long (3 : Int32) [(.long u4_0), (.long u4_1), (.long (o_sq p5))] (.long (0 : Int64))) := by
  refine Does.of (plainFor_of_name o_pn0) ?_
  intro p e s m below meth c T0 hx hby hml hown hnm hret hlk hZ X0 e0
  have hown : s.vm.findClass "com/example/overbook_guard/overbookguard/gate/Counters" = some m.cls := hown
  have hml : c.maxLocals = 10 := hml
  have hret : meth.sig.returnType = none := hret
  refine o_entry (o_ef4 m a1 p1 p2 p3 p4 p5) ?_
  have N0 := Fr.nil n0
  refine o_aloadN X0 hx (hb hby d_prog_1_method_2_code_0) (v := (.ref a1)) rfl rfl (n := 1) rfl ?_
  refine o_getfield X0 hx hZ hown (host := "") (Or.inl (hw _ (List.mem_of_getElem? (i := 12) rfl))) Via.refl e0 pF_a1_held (hb hby d_prog_1_method_2_code_1) (n := 4) rfl ?_
  intro T1 X1 e1
  refine o_iloadN X1 hx (hb hby d_prog_1_method_2_code_4) (v := (2 : Int32)) rfl (n := 5) rfl ?_
  refine o_iloadN X1 hx (hb hby d_prog_1_method_2_code_5) (v := p1) rfl (n := 6) rfl ?_
  refine o_bastoreZ X1 hx hZ e1 pV_y0 (2) (by decide) (by decide) (Nat.le_of_ble_eq_true rfl) (w := (.int p1)) (congrArg Value.int hn1) (vs' := [(.int u0_0), (.int u0_1), (.int p1)]) rfl (hb hby d_prog_1_method_2_code_6) (n := 7) rfl ?_
  intro T2 h2 X2 e2 W2 V2
  have f3 := pF_a1_held.other W2 (Or.inl pne_a1_y0)
  have f4 := pF_a1_counted.other W2 (Or.inl pne_a1_y0)
  have f5 := pF_a1_cores.other W2 (Or.inl pne_a1_y0)
  have f6 := pF_a1_gpus.other W2 (Or.inl pne_a1_y0)
  have f7 := pF_a1_seq.other W2 (Or.inl pne_a1_y0)
  have f8 := pV_y1.other W2 (Ne.symm pne_y0_y1)
  have f9 := pV_y2.other W2 (Ne.symm pne_y0_y2)
  have f10 := pV_y3.other W2 (Ne.symm pne_y0_y3)
  have f11 := pV_y4.other W2 (Ne.symm pne_y0_y4)
  have zz2 : n0 ≤ h2.size := Nat.le_trans Z0 (Nat.le_of_eq W2.size.symm)
  have N12 := Fr.snoc X2 N0 pg_y0
  have K13 : Keep h0 h2 [y0, y1, y2, y3, y4] := (Keep.refl h0 [y0, y1, y2, y3, y4]).wr W2 (Or.inl (List.mem_of_getElem? (i := 0) rfl))
  refine o_aloadN X2 hx (hb hby d_prog_1_method_2_code_7) (v := (.ref a1)) rfl rfl (n := 8) rfl ?_
  refine o_getfield X2 hx hZ hown (host := "") (Or.inl (hw _ (List.mem_of_getElem? (i := 14) rfl))) Via.refl e2 f4 (hb hby d_prog_1_method_2_code_8) (n := 11) rfl ?_
  intro T14 X14 e14
  refine o_iloadN X14 hx (hb hby d_prog_1_method_2_code_11) (v := (2 : Int32)) rfl (n := 12) rfl ?_
  refine o_iloadN X14 hx (hb hby d_prog_1_method_2_code_12) (v := p2) rfl (n := 13) rfl ?_
  refine o_bastoreZ X14 hx hZ e14 f8 (2) (by decide) (by decide) (Nat.le_of_ble_eq_true rfl) (w := (.int p2)) (congrArg Value.int hn2) (vs' := [(.int u1_0), (.int u1_1), (.int p2)]) rfl (hb hby d_prog_1_method_2_code_13) (n := 14) rfl ?_
  intro T15 h15 X15 e15 W15 V15
  have f16 := f3.other W15 (Or.inl pne_a1_y1)
  have f17 := f4.other W15 (Or.inl pne_a1_y1)
  have f18 := f5.other W15 (Or.inl pne_a1_y1)
  have f19 := f6.other W15 (Or.inl pne_a1_y1)
  have f20 := f7.other W15 (Or.inl pne_a1_y1)
  have f21 := V2.other W15 pne_y0_y1
  have f22 := f9.other W15 (Ne.symm pne_y1_y2)
  have f23 := f10.other W15 (Ne.symm pne_y1_y3)
  have f24 := f11.other W15 (Ne.symm pne_y1_y4)
  have zz15 : n0 ≤ h15.size := Nat.le_trans zz2 (Nat.le_of_eq W15.size.symm)
  have N25 := Fr.snoc X15 N12 pg_y1
  have K26 : Keep h0 h15 [y0, y1, y2, y3, y4] := K13.wr W15 (Or.inl (List.mem_of_getElem? (i := 1) rfl))
  refine o_aloadN X15 hx (hb hby d_prog_1_method_2_code_14) (v := (.ref a1)) rfl rfl (n := 15) rfl ?_
  refine o_getfield X15 hx hZ hown (host := "") (Or.inl (hw _ (List.mem_of_getElem? (i := 17) rfl))) Via.refl e15 f18 (hb hby d_prog_1_method_2_code_15) (n := 18) rfl ?_
  intro T27 X27 e27
  refine o_iloadN X27 hx (hb hby d_prog_1_method_2_code_18) (v := (2 : Int32)) rfl (n := 19) rfl ?_
  refine o_lload X27 hx (hb hby d_prog_1_method_2_code_19) (v := p3) rfl (n := 21) rfl ?_
  refine o_lastore X27 hx hZ e27 f22 (2) (by decide) (by decide) (Nat.le_of_ble_eq_true rfl) (w := (.long p3)) rfl (vs' := [(.long u2_0), (.long u2_1), (.long p3)]) rfl (hb hby d_prog_1_method_2_code_21) (n := 22) rfl ?_
  intro T28 h28 X28 e28 W28 V28
  have f29 := f16.other W28 (Or.inl pne_a1_y2)
  have f30 := f17.other W28 (Or.inl pne_a1_y2)
  have f31 := f18.other W28 (Or.inl pne_a1_y2)
  have f32 := f19.other W28 (Or.inl pne_a1_y2)
  have f33 := f20.other W28 (Or.inl pne_a1_y2)
  have f34 := f21.other W28 pne_y0_y2
  have f35 := V15.other W28 pne_y1_y2
  have f36 := f23.other W28 (Ne.symm pne_y2_y3)
  have f37 := f24.other W28 (Ne.symm pne_y2_y4)
  have zz28 : n0 ≤ h28.size := Nat.le_trans zz15 (Nat.le_of_eq W28.size.symm)
  have N38 := Fr.snoc X28 N25 pg_y2
  have K39 : Keep h0 h28 [y0, y1, y2, y3, y4] := K26.wr W28 (Or.inl (List.mem_of_getElem? (i := 2) rfl))
  refine o_aloadN X28 hx (hb hby d_prog_1_method_2_code_22) (v := (.ref a1)) rfl rfl (n := 23) rfl ?_
  refine o_getfield X28 hx hZ hown (host := "") (Or.inl (hw _ (List.mem_of_getElem? (i := 19) rfl))) Via.refl e28 f32 (hb hby d_prog_1_method_2_code_23) (n := 26) rfl ?_
  intro T40 X40 e40
  refine o_iloadN X40 hx (hb hby d_prog_1_method_2_code_26) (v := (2 : Int32)) rfl (n := 27) rfl ?_
  refine o_lload X40 hx (hb hby d_prog_1_method_2_code_27) (v := p4) rfl (n := 29) rfl ?_
  refine o_lastore X40 hx hZ e40 f36 (2) (by decide) (by decide) (Nat.le_of_ble_eq_true rfl) (w := (.long p4)) rfl (vs' := [(.long u3_0), (.long u3_1), (.long p4)]) rfl (hb hby d_prog_1_method_2_code_29) (n := 30) rfl ?_
  intro T41 h41 X41 e41 W41 V41
  have f42 := f29.other W41 (Or.inl pne_a1_y3)
  have f43 := f30.other W41 (Or.inl pne_a1_y3)
  have f44 := f31.other W41 (Or.inl pne_a1_y3)
  have f45 := f32.other W41 (Or.inl pne_a1_y3)
  have f46 := f33.other W41 (Or.inl pne_a1_y3)
  have f47 := f34.other W41 pne_y0_y3
  have f48 := f35.other W41 pne_y1_y3
  have f49 := V28.other W41 pne_y2_y3
  have f50 := f37.other W41 (Ne.symm pne_y3_y4)
  have zz41 : n0 ≤ h41.size := Nat.le_trans zz28 (Nat.le_of_eq W41.size.symm)
  have N51 := Fr.snoc X41 N38 pg_y3
  have K52 : Keep h0 h41 [y0, y1, y2, y3, y4] := K39.wr W41 (Or.inl (List.mem_of_getElem? (i := 3) rfl))
  refine o_aloadN X41 hx (hb hby d_prog_1_method_2_code_30) (v := (.ref a1)) rfl rfl (n := 31) rfl ?_
  refine o_getfield X41 hx hZ hown (host := "") (Or.inl (hw _ (List.mem_of_getElem? (i := 21) rfl))) Via.refl e41 f46 (hb hby d_prog_1_method_2_code_31) (n := 34) rfl ?_
  intro T53 X53 e53
  refine o_iloadN X53 hx (hb hby d_prog_1_method_2_code_34) (v := (2 : Int32)) rfl (n := 35) rfl ?_
  refine o_lload X53 hx (hb hby d_prog_1_method_2_code_35) (v := p5) rfl (n := 37) rfl ?_
  refine o_ldc2_w X53 hx hZ (v := (-9223372036854775808 : Int64)) hown (hw _ (List.mem_of_getElem? (i := 29) rfl)) (hb hby d_prog_1_method_2_code_37) (n := 40) rfl ?_
  refine o_lcmp X53 hx (hb hby d_prog_1_method_2_code_40) (n := 41) rfl ?_
  by_cases hc41 : p5 = (-9223372036854775808 : Int64)
  · refine o_ifN X53 hx (hb hby d_prog_1_method_2_code_41) (XT.ll_ne_f hc41) (n := 44) rfl ?_
    refine o_lconst X53 hx (hb hby d_prog_1_method_2_code_44) (v := (0 : Int64)) rfl (n := 45) rfl ?_
    refine o_goto X53 hx (hb hby d_prog_1_method_2_code_45) (by decide) (n := 50) (by decide) ?_
    refine o_lastore X53 hx hZ e53 f50 (2) (by decide) (by decide) (Nat.le_of_ble_eq_true rfl) (w := (.long (o_sq p5))) (congrArg Value.long (show (0 : Int64) = o_sq p5 by simp [o_sq, hc41])) (vs' := [(.long u4_0), (.long u4_1), (.long (o_sq p5))]) rfl (hb hby d_prog_1_method_2_code_50) (n := 51) rfl ?_
    intro T54 h54 X54 e54 W54 V54
    have f55 := f42.other W54 (Or.inl pne_a1_y4)
    have f56 := f43.other W54 (Or.inl pne_a1_y4)
    have f57 := f44.other W54 (Or.inl pne_a1_y4)
    have f58 := f45.other W54 (Or.inl pne_a1_y4)
    have f59 := f46.other W54 (Or.inl pne_a1_y4)
    have f60 := f47.other W54 pne_y0_y4
    have f61 := f48.other W54 pne_y1_y4
    have f62 := f49.other W54 pne_y2_y4
    have f63 := V41.other W54 pne_y3_y4
    have zz54 : n0 ≤ h54.size := Nat.le_trans zz41 (Nat.le_of_eq W54.size.symm)
    have N64 := Fr.snoc X54 N51 pg_y4
    have K65 : Keep h0 h54 [y0, y1, y2, y3, y4] := K52.wr W54 (Or.inl (List.mem_of_getElem? (i := 4) rfl))
    exact o_return X54 hx hret hlk (hb hby d_prog_1_method_2_code_51) (by decide) (by decide) e54 ⟨rfl, N64, K65, f60, f61, f62, f63, V54⟩
  · refine o_ifY X53 hx (hb hby d_prog_1_method_2_code_41) (XT.ll_ne_t hc41) (by decide) (n := 48) (by decide) ?_
    refine o_lload X53 hx (hb hby d_prog_1_method_2_code_48) (v := p5) rfl (n := 50) rfl ?_
    refine o_lastore X53 hx hZ e53 f50 (2) (by decide) (by decide) (Nat.le_of_ble_eq_true rfl) (w := (.long (o_sq p5))) (congrArg Value.long (show p5 = o_sq p5 by simp [o_sq, hc41])) (vs' := [(.long u4_0), (.long u4_1), (.long (o_sq p5))]) rfl (hb hby d_prog_1_method_2_code_50) (n := 51) rfl ?_
    intro T66 h66 X66 e66 W66 V66
    have f67 := f42.other W66 (Or.inl pne_a1_y4)
    have f68 := f43.other W66 (Or.inl pne_a1_y4)
    have f69 := f44.other W66 (Or.inl pne_a1_y4)
    have f70 := f45.other W66 (Or.inl pne_a1_y4)
    have f71 := f46.other W66 (Or.inl pne_a1_y4)
    have f72 := f47.other W66 pne_y0_y4
    have f73 := f48.other W66 pne_y1_y4
    have f74 := f49.other W66 pne_y2_y4
    have f75 := V41.other W66 pne_y3_y4
    have zz66 : n0 ≤ h66.size := Nat.le_trans zz41 (Nat.le_of_eq W66.size.symm)
    have N76 := Fr.snoc X66 N51 pg_y4
    have K77 : Keep h0 h66 [y0, y1, y2, y3, y4] := K52.wr W66 (Or.inl (List.mem_of_getElem? (i := 4) rfl))
    exact o_return X66 hx hret hlk (hb hby d_prog_1_method_2_code_51) (by decide) (by decide) e66 ⟨rfl, N76, K77, f72, f73, f74, f75, V66⟩
theorem d_prog_1_method_3_code_0 : decode prog_1_method_3_code 0 = .ok (.aload_n 0, 1) := by decide +kernel
theorem d_prog_1_method_3_code_1 : decode prog_1_method_3_code 1 = .ok (.getfield 7, 3) := by decide +kernel
theorem d_prog_1_method_3_code_4 : decode prog_1_method_3_code 4 = .ok (.iload_n 1, 1) := by decide +kernel
theorem d_prog_1_method_3_code_5 : decode prog_1_method_3_code 5 = .ok (.baload, 1) := by decide +kernel
theorem d_prog_1_method_3_code_6 : decode prog_1_method_3_code 6 = .ok (.ireturn, 1) := by decide +kernel
theorem o_ef5 (m : MethodId) (a1 : Addr) : entryFrame m #[(.ref a1), (.int (0 : Int32))] 2 = mkF m 0 #[.val (.ref a1), .val (.int (0 : Int32))] [] := by first | (simp [entryFrame, mkF, argsToLocals, Value.category]; done) | rfl
set_option maxRecDepth 65536 in
set_option maxHeartbeats 40000000 in
theorem c_held_0 (l : Launch) (Z : State) (a0 : Array Value) (hw : ∀ d ∈ tables_1, d.before a0 Z = true) (a1 : Addr) (y1 : Addr) (k1 : ClassId) (u0 : Int32) (u1 : Int32) (u2 : Int32) (h0 : Heap) (pF_a1_held : Fld Z h0 a1 "com/example/overbook_guard/overbookguard/gate/Counters" "held" "[Z" (.ref y1)) (pV_y1 : Arv Z h0 y1 k1 .boolean (3 : Int32) [(.int u0), (.int u1), (.int u2)] (.int (0 : Int32))) (hn : nar .boolean u0 = u0) :
    Does l Z (⟨"com/example/overbook_guard/overbookguard/gate/Counters", "held", "(I)Z"⟩ : MethodName) prog_1_method_3_code 2 (some .boolean) [] ({ frames := 0, cells := 0, slots := 0, locals := 0 } : Room) #[(.ref a1), (.int (0 : Int32))] h0 (Pur h0 (.int u0)) := by
  refine Does.of (plainFor_of_name o_pn0) ?_
  intro p e s m below meth c T0 hx hby hml hown hnm hret hlk hZ X0 e0
  have hown : s.vm.findClass "com/example/overbook_guard/overbookguard/gate/Counters" = some m.cls := hown
  have hml : c.maxLocals = 2 := hml
  have hret : meth.sig.returnType = some .boolean := hret
  refine o_entry (o_ef5 m a1) ?_
  refine o_aloadN X0 hx (hb hby d_prog_1_method_3_code_0) (v := (.ref a1)) rfl rfl (n := 1) rfl ?_
  refine o_getfield X0 hx hZ hown (host := "") (Or.inl (hw _ (List.mem_of_getElem? (i := 12) rfl))) Via.refl e0 pF_a1_held (hb hby d_prog_1_method_3_code_1) (n := 4) rfl ?_
  intro T1 X1 e1
  refine o_iloadN X1 hx (hb hby d_prog_1_method_3_code_4) (v := (0 : Int32)) rfl (n := 5) rfl ?_
  refine o_baloadZ X1 hx hZ e1 pV_y1 (0) (by decide) (by decide) (v := (.int u0)) rfl (hb hby d_prog_1_method_3_code_5) (n := 6) rfl ?_
  exact o_nreturn X1 hx hret hlk (t := .boolean) (by simp) (hb hby d_prog_1_method_3_code_6) (by decide) (by decide) e1 ⟨(congrArg (fun q => some (Value.int q)) hn), rfl, rfl⟩
theorem o_ef6 (m : MethodId) (a1 : Addr) : entryFrame m #[(.ref a1), (.int (1 : Int32))] 2 = mkF m 0 #[.val (.ref a1), .val (.int (1 : Int32))] [] := by first | (simp [entryFrame, mkF, argsToLocals, Value.category]; done) | rfl
set_option maxRecDepth 65536 in
set_option maxHeartbeats 40000000 in
theorem c_held_1 (l : Launch) (Z : State) (a0 : Array Value) (hw : ∀ d ∈ tables_1, d.before a0 Z = true) (a1 : Addr) (y1 : Addr) (k1 : ClassId) (u0 : Int32) (u1 : Int32) (u2 : Int32) (h0 : Heap) (pF_a1_held : Fld Z h0 a1 "com/example/overbook_guard/overbookguard/gate/Counters" "held" "[Z" (.ref y1)) (pV_y1 : Arv Z h0 y1 k1 .boolean (3 : Int32) [(.int u0), (.int u1), (.int u2)] (.int (0 : Int32))) (hn : nar .boolean u1 = u1) :
    Does l Z (⟨"com/example/overbook_guard/overbookguard/gate/Counters", "held", "(I)Z"⟩ : MethodName) prog_1_method_3_code 2 (some .boolean) [] ({ frames := 0, cells := 0, slots := 0, locals := 0 } : Room) #[(.ref a1), (.int (1 : Int32))] h0 (Pur h0 (.int u1)) := by
  refine Does.of (plainFor_of_name o_pn0) ?_
  intro p e s m below meth c T0 hx hby hml hown hnm hret hlk hZ X0 e0
  have hown : s.vm.findClass "com/example/overbook_guard/overbookguard/gate/Counters" = some m.cls := hown
  have hml : c.maxLocals = 2 := hml
  have hret : meth.sig.returnType = some .boolean := hret
  refine o_entry (o_ef6 m a1) ?_
  refine o_aloadN X0 hx (hb hby d_prog_1_method_3_code_0) (v := (.ref a1)) rfl rfl (n := 1) rfl ?_
  refine o_getfield X0 hx hZ hown (host := "") (Or.inl (hw _ (List.mem_of_getElem? (i := 12) rfl))) Via.refl e0 pF_a1_held (hb hby d_prog_1_method_3_code_1) (n := 4) rfl ?_
  intro T1 X1 e1
  refine o_iloadN X1 hx (hb hby d_prog_1_method_3_code_4) (v := (1 : Int32)) rfl (n := 5) rfl ?_
  refine o_baloadZ X1 hx hZ e1 pV_y1 (1) (by decide) (by decide) (v := (.int u1)) rfl (hb hby d_prog_1_method_3_code_5) (n := 6) rfl ?_
  exact o_nreturn X1 hx hret hlk (t := .boolean) (by simp) (hb hby d_prog_1_method_3_code_6) (by decide) (by decide) e1 ⟨(congrArg (fun q => some (Value.int q)) hn), rfl, rfl⟩
theorem o_ef7 (m : MethodId) (a1 : Addr) : entryFrame m #[(.ref a1), (.int (2 : Int32))] 2 = mkF m 0 #[.val (.ref a1), .val (.int (2 : Int32))] [] := by first | (simp [entryFrame, mkF, argsToLocals, Value.category]; done) | rfl
set_option maxRecDepth 65536 in
set_option maxHeartbeats 40000000 in
theorem c_held_2 (l : Launch) (Z : State) (a0 : Array Value) (hw : ∀ d ∈ tables_1, d.before a0 Z = true) (a1 : Addr) (y1 : Addr) (k1 : ClassId) (u0 : Int32) (u1 : Int32) (u2 : Int32) (h0 : Heap) (pF_a1_held : Fld Z h0 a1 "com/example/overbook_guard/overbookguard/gate/Counters" "held" "[Z" (.ref y1)) (pV_y1 : Arv Z h0 y1 k1 .boolean (3 : Int32) [(.int u0), (.int u1), (.int u2)] (.int (0 : Int32))) (hn : nar .boolean u2 = u2) :
    Does l Z (⟨"com/example/overbook_guard/overbookguard/gate/Counters", "held", "(I)Z"⟩ : MethodName) prog_1_method_3_code 2 (some .boolean) [] ({ frames := 0, cells := 0, slots := 0, locals := 0 } : Room) #[(.ref a1), (.int (2 : Int32))] h0 (Pur h0 (.int u2)) := by
  refine Does.of (plainFor_of_name o_pn0) ?_
  intro p e s m below meth c T0 hx hby hml hown hnm hret hlk hZ X0 e0
  have hown : s.vm.findClass "com/example/overbook_guard/overbookguard/gate/Counters" = some m.cls := hown
  have hml : c.maxLocals = 2 := hml
  have hret : meth.sig.returnType = some .boolean := hret
  refine o_entry (o_ef7 m a1) ?_
  refine o_aloadN X0 hx (hb hby d_prog_1_method_3_code_0) (v := (.ref a1)) rfl rfl (n := 1) rfl ?_
  refine o_getfield X0 hx hZ hown (host := "") (Or.inl (hw _ (List.mem_of_getElem? (i := 12) rfl))) Via.refl e0 pF_a1_held (hb hby d_prog_1_method_3_code_1) (n := 4) rfl ?_
  intro T1 X1 e1
  refine o_iloadN X1 hx (hb hby d_prog_1_method_3_code_4) (v := (2 : Int32)) rfl (n := 5) rfl ?_
  refine o_baloadZ X1 hx hZ e1 pV_y1 (2) (by decide) (by decide) (v := (.int u2)) rfl (hb hby d_prog_1_method_3_code_5) (n := 6) rfl ?_
  exact o_nreturn X1 hx hret hlk (t := .boolean) (by simp) (hb hby d_prog_1_method_3_code_6) (by decide) (by decide) e1 ⟨(congrArg (fun q => some (Value.int q)) hn), rfl, rfl⟩
theorem d_prog_1_method_4_code_0 : decode prog_1_method_4_code 0 = .ok (.aload_n 0, 1) := by decide +kernel
theorem d_prog_1_method_4_code_1 : decode prog_1_method_4_code 1 = .ok (.getfield 13, 3) := by decide +kernel
theorem d_prog_1_method_4_code_4 : decode prog_1_method_4_code 4 = .ok (.iload_n 1, 1) := by decide +kernel
theorem d_prog_1_method_4_code_5 : decode prog_1_method_4_code 5 = .ok (.baload, 1) := by decide +kernel
theorem d_prog_1_method_4_code_6 : decode prog_1_method_4_code 6 = .ok (.ireturn, 1) := by decide +kernel
theorem o_ef8 (m : MethodId) (a1 : Addr) : entryFrame m #[(.ref a1), (.int (0 : Int32))] 2 = mkF m 0 #[.val (.ref a1), .val (.int (0 : Int32))] [] := by first | (simp [entryFrame, mkF, argsToLocals, Value.category]; done) | rfl
set_option maxRecDepth 65536 in
set_option maxHeartbeats 40000000 in
theorem c_counted_0 (l : Launch) (Z : State) (a0 : Array Value) (hw : ∀ d ∈ tables_1, d.before a0 Z = true) (a1 : Addr) (y1 : Addr) (k1 : ClassId) (u0 : Int32) (u1 : Int32) (u2 : Int32) (h0 : Heap) (pF_a1_counted : Fld Z h0 a1 "com/example/overbook_guard/overbookguard/gate/Counters" "counted" "[Z" (.ref y1)) (pV_y1 : Arv Z h0 y1 k1 .boolean (3 : Int32) [(.int u0), (.int u1), (.int u2)] (.int (0 : Int32))) (hn : nar .boolean u0 = u0) :
    Does l Z (⟨"com/example/overbook_guard/overbookguard/gate/Counters", "counted", "(I)Z"⟩ : MethodName) prog_1_method_4_code 2 (some .boolean) [] ({ frames := 0, cells := 0, slots := 0, locals := 0 } : Room) #[(.ref a1), (.int (0 : Int32))] h0 (Pur h0 (.int u0)) := by
  refine Does.of (plainFor_of_name o_pn0) ?_
  intro p e s m below meth c T0 hx hby hml hown hnm hret hlk hZ X0 e0
  have hown : s.vm.findClass "com/example/overbook_guard/overbookguard/gate/Counters" = some m.cls := hown
  have hml : c.maxLocals = 2 := hml
  have hret : meth.sig.returnType = some .boolean := hret
  refine o_entry (o_ef8 m a1) ?_
  refine o_aloadN X0 hx (hb hby d_prog_1_method_4_code_0) (v := (.ref a1)) rfl rfl (n := 1) rfl ?_
  refine o_getfield X0 hx hZ hown (host := "") (Or.inl (hw _ (List.mem_of_getElem? (i := 14) rfl))) Via.refl e0 pF_a1_counted (hb hby d_prog_1_method_4_code_1) (n := 4) rfl ?_
  intro T1 X1 e1
  refine o_iloadN X1 hx (hb hby d_prog_1_method_4_code_4) (v := (0 : Int32)) rfl (n := 5) rfl ?_
  refine o_baloadZ X1 hx hZ e1 pV_y1 (0) (by decide) (by decide) (v := (.int u0)) rfl (hb hby d_prog_1_method_4_code_5) (n := 6) rfl ?_
  exact o_nreturn X1 hx hret hlk (t := .boolean) (by simp) (hb hby d_prog_1_method_4_code_6) (by decide) (by decide) e1 ⟨(congrArg (fun q => some (Value.int q)) hn), rfl, rfl⟩
theorem o_ef9 (m : MethodId) (a1 : Addr) : entryFrame m #[(.ref a1), (.int (1 : Int32))] 2 = mkF m 0 #[.val (.ref a1), .val (.int (1 : Int32))] [] := by first | (simp [entryFrame, mkF, argsToLocals, Value.category]; done) | rfl
set_option maxRecDepth 65536 in
set_option maxHeartbeats 40000000 in
theorem c_counted_1 (l : Launch) (Z : State) (a0 : Array Value) (hw : ∀ d ∈ tables_1, d.before a0 Z = true) (a1 : Addr) (y1 : Addr) (k1 : ClassId) (u0 : Int32) (u1 : Int32) (u2 : Int32) (h0 : Heap) (pF_a1_counted : Fld Z h0 a1 "com/example/overbook_guard/overbookguard/gate/Counters" "counted" "[Z" (.ref y1)) (pV_y1 : Arv Z h0 y1 k1 .boolean (3 : Int32) [(.int u0), (.int u1), (.int u2)] (.int (0 : Int32))) (hn : nar .boolean u1 = u1) :
    Does l Z (⟨"com/example/overbook_guard/overbookguard/gate/Counters", "counted", "(I)Z"⟩ : MethodName) prog_1_method_4_code 2 (some .boolean) [] ({ frames := 0, cells := 0, slots := 0, locals := 0 } : Room) #[(.ref a1), (.int (1 : Int32))] h0 (Pur h0 (.int u1)) := by
  refine Does.of (plainFor_of_name o_pn0) ?_
  intro p e s m below meth c T0 hx hby hml hown hnm hret hlk hZ X0 e0
  have hown : s.vm.findClass "com/example/overbook_guard/overbookguard/gate/Counters" = some m.cls := hown
  have hml : c.maxLocals = 2 := hml
  have hret : meth.sig.returnType = some .boolean := hret
  refine o_entry (o_ef9 m a1) ?_
  refine o_aloadN X0 hx (hb hby d_prog_1_method_4_code_0) (v := (.ref a1)) rfl rfl (n := 1) rfl ?_
  refine o_getfield X0 hx hZ hown (host := "") (Or.inl (hw _ (List.mem_of_getElem? (i := 14) rfl))) Via.refl e0 pF_a1_counted (hb hby d_prog_1_method_4_code_1) (n := 4) rfl ?_
  intro T1 X1 e1
  refine o_iloadN X1 hx (hb hby d_prog_1_method_4_code_4) (v := (1 : Int32)) rfl (n := 5) rfl ?_
  refine o_baloadZ X1 hx hZ e1 pV_y1 (1) (by decide) (by decide) (v := (.int u1)) rfl (hb hby d_prog_1_method_4_code_5) (n := 6) rfl ?_
  exact o_nreturn X1 hx hret hlk (t := .boolean) (by simp) (hb hby d_prog_1_method_4_code_6) (by decide) (by decide) e1 ⟨(congrArg (fun q => some (Value.int q)) hn), rfl, rfl⟩
theorem o_ef10 (m : MethodId) (a1 : Addr) : entryFrame m #[(.ref a1), (.int (2 : Int32))] 2 = mkF m 0 #[.val (.ref a1), .val (.int (2 : Int32))] [] := by first | (simp [entryFrame, mkF, argsToLocals, Value.category]; done) | rfl
set_option maxRecDepth 65536 in
set_option maxHeartbeats 40000000 in
theorem c_counted_2 (l : Launch) (Z : State) (a0 : Array Value) (hw : ∀ d ∈ tables_1, d.before a0 Z = true) (a1 : Addr) (y1 : Addr) (k1 : ClassId) (u0 : Int32) (u1 : Int32) (u2 : Int32) (h0 : Heap) (pF_a1_counted : Fld Z h0 a1 "com/example/overbook_guard/overbookguard/gate/Counters" "counted" "[Z" (.ref y1)) (pV_y1 : Arv Z h0 y1 k1 .boolean (3 : Int32) [(.int u0), (.int u1), (.int u2)] (.int (0 : Int32))) (hn : nar .boolean u2 = u2) :
    Does l Z (⟨"com/example/overbook_guard/overbookguard/gate/Counters", "counted", "(I)Z"⟩ : MethodName) prog_1_method_4_code 2 (some .boolean) [] ({ frames := 0, cells := 0, slots := 0, locals := 0 } : Room) #[(.ref a1), (.int (2 : Int32))] h0 (Pur h0 (.int u2)) := by
  refine Does.of (plainFor_of_name o_pn0) ?_
  intro p e s m below meth c T0 hx hby hml hown hnm hret hlk hZ X0 e0
  have hown : s.vm.findClass "com/example/overbook_guard/overbookguard/gate/Counters" = some m.cls := hown
  have hml : c.maxLocals = 2 := hml
  have hret : meth.sig.returnType = some .boolean := hret
  refine o_entry (o_ef10 m a1) ?_
  refine o_aloadN X0 hx (hb hby d_prog_1_method_4_code_0) (v := (.ref a1)) rfl rfl (n := 1) rfl ?_
  refine o_getfield X0 hx hZ hown (host := "") (Or.inl (hw _ (List.mem_of_getElem? (i := 14) rfl))) Via.refl e0 pF_a1_counted (hb hby d_prog_1_method_4_code_1) (n := 4) rfl ?_
  intro T1 X1 e1
  refine o_iloadN X1 hx (hb hby d_prog_1_method_4_code_4) (v := (2 : Int32)) rfl (n := 5) rfl ?_
  refine o_baloadZ X1 hx hZ e1 pV_y1 (2) (by decide) (by decide) (v := (.int u2)) rfl (hb hby d_prog_1_method_4_code_5) (n := 6) rfl ?_
  exact o_nreturn X1 hx hret hlk (t := .boolean) (by simp) (hb hby d_prog_1_method_4_code_6) (by decide) (by decide) e1 ⟨(congrArg (fun q => some (Value.int q)) hn), rfl, rfl⟩
theorem d_prog_1_method_5_code_0 : decode prog_1_method_5_code 0 = .ok (.aload_n 0, 1) := by decide +kernel
theorem d_prog_1_method_5_code_1 : decode prog_1_method_5_code 1 = .ok (.getfield 16, 3) := by decide +kernel
theorem d_prog_1_method_5_code_4 : decode prog_1_method_5_code 4 = .ok (.iload_n 1, 1) := by decide +kernel
theorem d_prog_1_method_5_code_5 : decode prog_1_method_5_code 5 = .ok (.laload, 1) := by decide +kernel
theorem d_prog_1_method_5_code_6 : decode prog_1_method_5_code 6 = .ok (.lreturn, 1) := by decide +kernel
theorem o_ef11 (m : MethodId) (a1 : Addr) : entryFrame m #[(.ref a1), (.int (0 : Int32))] 2 = mkF m 0 #[.val (.ref a1), .val (.int (0 : Int32))] [] := by first | (simp [entryFrame, mkF, argsToLocals, Value.category]; done) | rfl
set_option maxRecDepth 65536 in
set_option maxHeartbeats 40000000 in
theorem c_cores_0 (l : Launch) (Z : State) (a0 : Array Value) (hw : ∀ d ∈ tables_1, d.before a0 Z = true) (a1 : Addr) (y1 : Addr) (k1 : ClassId) (u0 : Int64) (u1 : Int64) (u2 : Int64) (h0 : Heap) (pF_a1_cores : Fld Z h0 a1 "com/example/overbook_guard/overbookguard/gate/Counters" "cores" "[J" (.ref y1)) (pV_y1 : Arv Z h0 y1 k1 .long (3 : Int32) [(.long u0), (.long u1), (.long u2)] (.long (0 : Int64))) :
    Does l Z (⟨"com/example/overbook_guard/overbookguard/gate/Counters", "cores", "(I)J"⟩ : MethodName) prog_1_method_5_code 2 (some .long) [] ({ frames := 0, cells := 0, slots := 0, locals := 0 } : Room) #[(.ref a1), (.int (0 : Int32))] h0 (Pur h0 (.long u0)) := by
  refine Does.of (plainFor_of_name o_pn0) ?_
  intro p e s m below meth c T0 hx hby hml hown hnm hret hlk hZ X0 e0
  have hown : s.vm.findClass "com/example/overbook_guard/overbookguard/gate/Counters" = some m.cls := hown
  have hml : c.maxLocals = 2 := hml
  have hret : meth.sig.returnType = some .long := hret
  refine o_entry (o_ef11 m a1) ?_
  refine o_aloadN X0 hx (hb hby d_prog_1_method_5_code_0) (v := (.ref a1)) rfl rfl (n := 1) rfl ?_
  refine o_getfield X0 hx hZ hown (host := "") (Or.inl (hw _ (List.mem_of_getElem? (i := 17) rfl))) Via.refl e0 pF_a1_cores (hb hby d_prog_1_method_5_code_1) (n := 4) rfl ?_
  intro T1 X1 e1
  refine o_iloadN X1 hx (hb hby d_prog_1_method_5_code_4) (v := (0 : Int32)) rfl (n := 5) rfl ?_
  refine o_laload X1 hx hZ e1 pV_y1 (0) (by decide) (by decide) (v := (.long u0)) rfl (hb hby d_prog_1_method_5_code_5) (n := 6) rfl ?_
  exact o_lreturn X1 hx hret hlk (hb hby d_prog_1_method_5_code_6) (by decide) (by decide) e1 ⟨rfl, rfl, rfl⟩
theorem o_ef12 (m : MethodId) (a1 : Addr) : entryFrame m #[(.ref a1), (.int (1 : Int32))] 2 = mkF m 0 #[.val (.ref a1), .val (.int (1 : Int32))] [] := by first | (simp [entryFrame, mkF, argsToLocals, Value.category]; done) | rfl
set_option maxRecDepth 65536 in
set_option maxHeartbeats 40000000 in
theorem c_cores_1 (l : Launch) (Z : State) (a0 : Array Value) (hw : ∀ d ∈ tables_1, d.before a0 Z = true) (a1 : Addr) (y1 : Addr) (k1 : ClassId) (u0 : Int64) (u1 : Int64) (u2 : Int64) (h0 : Heap) (pF_a1_cores : Fld Z h0 a1 "com/example/overbook_guard/overbookguard/gate/Counters" "cores" "[J" (.ref y1)) (pV_y1 : Arv Z h0 y1 k1 .long (3 : Int32) [(.long u0), (.long u1), (.long u2)] (.long (0 : Int64))) :
    Does l Z (⟨"com/example/overbook_guard/overbookguard/gate/Counters", "cores", "(I)J"⟩ : MethodName) prog_1_method_5_code 2 (some .long) [] ({ frames := 0, cells := 0, slots := 0, locals := 0 } : Room) #[(.ref a1), (.int (1 : Int32))] h0 (Pur h0 (.long u1)) := by
  refine Does.of (plainFor_of_name o_pn0) ?_
  intro p e s m below meth c T0 hx hby hml hown hnm hret hlk hZ X0 e0
  have hown : s.vm.findClass "com/example/overbook_guard/overbookguard/gate/Counters" = some m.cls := hown
  have hml : c.maxLocals = 2 := hml
  have hret : meth.sig.returnType = some .long := hret
  refine o_entry (o_ef12 m a1) ?_
  refine o_aloadN X0 hx (hb hby d_prog_1_method_5_code_0) (v := (.ref a1)) rfl rfl (n := 1) rfl ?_
  refine o_getfield X0 hx hZ hown (host := "") (Or.inl (hw _ (List.mem_of_getElem? (i := 17) rfl))) Via.refl e0 pF_a1_cores (hb hby d_prog_1_method_5_code_1) (n := 4) rfl ?_
  intro T1 X1 e1
  refine o_iloadN X1 hx (hb hby d_prog_1_method_5_code_4) (v := (1 : Int32)) rfl (n := 5) rfl ?_
  refine o_laload X1 hx hZ e1 pV_y1 (1) (by decide) (by decide) (v := (.long u1)) rfl (hb hby d_prog_1_method_5_code_5) (n := 6) rfl ?_
  exact o_lreturn X1 hx hret hlk (hb hby d_prog_1_method_5_code_6) (by decide) (by decide) e1 ⟨rfl, rfl, rfl⟩
theorem o_ef13 (m : MethodId) (a1 : Addr) : entryFrame m #[(.ref a1), (.int (2 : Int32))] 2 = mkF m 0 #[.val (.ref a1), .val (.int (2 : Int32))] [] := by first | (simp [entryFrame, mkF, argsToLocals, Value.category]; done) | rfl
set_option maxRecDepth 65536 in
set_option maxHeartbeats 40000000 in
theorem c_cores_2 (l : Launch) (Z : State) (a0 : Array Value) (hw : ∀ d ∈ tables_1, d.before a0 Z = true) (a1 : Addr) (y1 : Addr) (k1 : ClassId) (u0 : Int64) (u1 : Int64) (u2 : Int64) (h0 : Heap) (pF_a1_cores : Fld Z h0 a1 "com/example/overbook_guard/overbookguard/gate/Counters" "cores" "[J" (.ref y1)) (pV_y1 : Arv Z h0 y1 k1 .long (3 : Int32) [(.long u0), (.long u1), (.long u2)] (.long (0 : Int64))) :
    Does l Z (⟨"com/example/overbook_guard/overbookguard/gate/Counters", "cores", "(I)J"⟩ : MethodName) prog_1_method_5_code 2 (some .long) [] ({ frames := 0, cells := 0, slots := 0, locals := 0 } : Room) #[(.ref a1), (.int (2 : Int32))] h0 (Pur h0 (.long u2)) := by
  refine Does.of (plainFor_of_name o_pn0) ?_
  intro p e s m below meth c T0 hx hby hml hown hnm hret hlk hZ X0 e0
  have hown : s.vm.findClass "com/example/overbook_guard/overbookguard/gate/Counters" = some m.cls := hown
  have hml : c.maxLocals = 2 := hml
  have hret : meth.sig.returnType = some .long := hret
  refine o_entry (o_ef13 m a1) ?_
  refine o_aloadN X0 hx (hb hby d_prog_1_method_5_code_0) (v := (.ref a1)) rfl rfl (n := 1) rfl ?_
  refine o_getfield X0 hx hZ hown (host := "") (Or.inl (hw _ (List.mem_of_getElem? (i := 17) rfl))) Via.refl e0 pF_a1_cores (hb hby d_prog_1_method_5_code_1) (n := 4) rfl ?_
  intro T1 X1 e1
  refine o_iloadN X1 hx (hb hby d_prog_1_method_5_code_4) (v := (2 : Int32)) rfl (n := 5) rfl ?_
  refine o_laload X1 hx hZ e1 pV_y1 (2) (by decide) (by decide) (v := (.long u2)) rfl (hb hby d_prog_1_method_5_code_5) (n := 6) rfl ?_
  exact o_lreturn X1 hx hret hlk (hb hby d_prog_1_method_5_code_6) (by decide) (by decide) e1 ⟨rfl, rfl, rfl⟩
theorem d_prog_1_method_6_code_0 : decode prog_1_method_6_code 0 = .ok (.aload_n 0, 1) := by decide +kernel
theorem d_prog_1_method_6_code_1 : decode prog_1_method_6_code 1 = .ok (.getfield 20, 3) := by decide +kernel
theorem d_prog_1_method_6_code_4 : decode prog_1_method_6_code 4 = .ok (.iload_n 1, 1) := by decide +kernel
theorem d_prog_1_method_6_code_5 : decode prog_1_method_6_code 5 = .ok (.laload, 1) := by decide +kernel
theorem d_prog_1_method_6_code_6 : decode prog_1_method_6_code 6 = .ok (.lreturn, 1) := by decide +kernel
theorem o_ef14 (m : MethodId) (a1 : Addr) : entryFrame m #[(.ref a1), (.int (0 : Int32))] 2 = mkF m 0 #[.val (.ref a1), .val (.int (0 : Int32))] [] := by first | (simp [entryFrame, mkF, argsToLocals, Value.category]; done) | rfl
set_option maxRecDepth 65536 in
set_option maxHeartbeats 40000000 in
theorem c_gpus_0 (l : Launch) (Z : State) (a0 : Array Value) (hw : ∀ d ∈ tables_1, d.before a0 Z = true) (a1 : Addr) (y1 : Addr) (k1 : ClassId) (u0 : Int64) (u1 : Int64) (u2 : Int64) (h0 : Heap) (pF_a1_gpus : Fld Z h0 a1 "com/example/overbook_guard/overbookguard/gate/Counters" "gpus" "[J" (.ref y1)) (pV_y1 : Arv Z h0 y1 k1 .long (3 : Int32) [(.long u0), (.long u1), (.long u2)] (.long (0 : Int64))) :
    Does l Z (⟨"com/example/overbook_guard/overbookguard/gate/Counters", "gpus", "(I)J"⟩ : MethodName) prog_1_method_6_code 2 (some .long) [] ({ frames := 0, cells := 0, slots := 0, locals := 0 } : Room) #[(.ref a1), (.int (0 : Int32))] h0 (Pur h0 (.long u0)) := by
  refine Does.of (plainFor_of_name o_pn0) ?_
  intro p e s m below meth c T0 hx hby hml hown hnm hret hlk hZ X0 e0
  have hown : s.vm.findClass "com/example/overbook_guard/overbookguard/gate/Counters" = some m.cls := hown
  have hml : c.maxLocals = 2 := hml
  have hret : meth.sig.returnType = some .long := hret
  refine o_entry (o_ef14 m a1) ?_
  refine o_aloadN X0 hx (hb hby d_prog_1_method_6_code_0) (v := (.ref a1)) rfl rfl (n := 1) rfl ?_
  refine o_getfield X0 hx hZ hown (host := "") (Or.inl (hw _ (List.mem_of_getElem? (i := 19) rfl))) Via.refl e0 pF_a1_gpus (hb hby d_prog_1_method_6_code_1) (n := 4) rfl ?_
  intro T1 X1 e1
  refine o_iloadN X1 hx (hb hby d_prog_1_method_6_code_4) (v := (0 : Int32)) rfl (n := 5) rfl ?_
  refine o_laload X1 hx hZ e1 pV_y1 (0) (by decide) (by decide) (v := (.long u0)) rfl (hb hby d_prog_1_method_6_code_5) (n := 6) rfl ?_
  exact o_lreturn X1 hx hret hlk (hb hby d_prog_1_method_6_code_6) (by decide) (by decide) e1 ⟨rfl, rfl, rfl⟩
theorem o_ef15 (m : MethodId) (a1 : Addr) : entryFrame m #[(.ref a1), (.int (1 : Int32))] 2 = mkF m 0 #[.val (.ref a1), .val (.int (1 : Int32))] [] := by first | (simp [entryFrame, mkF, argsToLocals, Value.category]; done) | rfl
set_option maxRecDepth 65536 in
set_option maxHeartbeats 40000000 in
theorem c_gpus_1 (l : Launch) (Z : State) (a0 : Array Value) (hw : ∀ d ∈ tables_1, d.before a0 Z = true) (a1 : Addr) (y1 : Addr) (k1 : ClassId) (u0 : Int64) (u1 : Int64) (u2 : Int64) (h0 : Heap) (pF_a1_gpus : Fld Z h0 a1 "com/example/overbook_guard/overbookguard/gate/Counters" "gpus" "[J" (.ref y1)) (pV_y1 : Arv Z h0 y1 k1 .long (3 : Int32) [(.long u0), (.long u1), (.long u2)] (.long (0 : Int64))) :
    Does l Z (⟨"com/example/overbook_guard/overbookguard/gate/Counters", "gpus", "(I)J"⟩ : MethodName) prog_1_method_6_code 2 (some .long) [] ({ frames := 0, cells := 0, slots := 0, locals := 0 } : Room) #[(.ref a1), (.int (1 : Int32))] h0 (Pur h0 (.long u1)) := by
  refine Does.of (plainFor_of_name o_pn0) ?_
  intro p e s m below meth c T0 hx hby hml hown hnm hret hlk hZ X0 e0
  have hown : s.vm.findClass "com/example/overbook_guard/overbookguard/gate/Counters" = some m.cls := hown
  have hml : c.maxLocals = 2 := hml
  have hret : meth.sig.returnType = some .long := hret
  refine o_entry (o_ef15 m a1) ?_
  refine o_aloadN X0 hx (hb hby d_prog_1_method_6_code_0) (v := (.ref a1)) rfl rfl (n := 1) rfl ?_
  refine o_getfield X0 hx hZ hown (host := "") (Or.inl (hw _ (List.mem_of_getElem? (i := 19) rfl))) Via.refl e0 pF_a1_gpus (hb hby d_prog_1_method_6_code_1) (n := 4) rfl ?_
  intro T1 X1 e1
  refine o_iloadN X1 hx (hb hby d_prog_1_method_6_code_4) (v := (1 : Int32)) rfl (n := 5) rfl ?_
  refine o_laload X1 hx hZ e1 pV_y1 (1) (by decide) (by decide) (v := (.long u1)) rfl (hb hby d_prog_1_method_6_code_5) (n := 6) rfl ?_
  exact o_lreturn X1 hx hret hlk (hb hby d_prog_1_method_6_code_6) (by decide) (by decide) e1 ⟨rfl, rfl, rfl⟩
theorem o_ef16 (m : MethodId) (a1 : Addr) : entryFrame m #[(.ref a1), (.int (2 : Int32))] 2 = mkF m 0 #[.val (.ref a1), .val (.int (2 : Int32))] [] := by first | (simp [entryFrame, mkF, argsToLocals, Value.category]; done) | rfl
set_option maxRecDepth 65536 in
set_option maxHeartbeats 40000000 in
theorem c_gpus_2 (l : Launch) (Z : State) (a0 : Array Value) (hw : ∀ d ∈ tables_1, d.before a0 Z = true) (a1 : Addr) (y1 : Addr) (k1 : ClassId) (u0 : Int64) (u1 : Int64) (u2 : Int64) (h0 : Heap) (pF_a1_gpus : Fld Z h0 a1 "com/example/overbook_guard/overbookguard/gate/Counters" "gpus" "[J" (.ref y1)) (pV_y1 : Arv Z h0 y1 k1 .long (3 : Int32) [(.long u0), (.long u1), (.long u2)] (.long (0 : Int64))) :
    Does l Z (⟨"com/example/overbook_guard/overbookguard/gate/Counters", "gpus", "(I)J"⟩ : MethodName) prog_1_method_6_code 2 (some .long) [] ({ frames := 0, cells := 0, slots := 0, locals := 0 } : Room) #[(.ref a1), (.int (2 : Int32))] h0 (Pur h0 (.long u2)) := by
  refine Does.of (plainFor_of_name o_pn0) ?_
  intro p e s m below meth c T0 hx hby hml hown hnm hret hlk hZ X0 e0
  have hown : s.vm.findClass "com/example/overbook_guard/overbookguard/gate/Counters" = some m.cls := hown
  have hml : c.maxLocals = 2 := hml
  have hret : meth.sig.returnType = some .long := hret
  refine o_entry (o_ef16 m a1) ?_
  refine o_aloadN X0 hx (hb hby d_prog_1_method_6_code_0) (v := (.ref a1)) rfl rfl (n := 1) rfl ?_
  refine o_getfield X0 hx hZ hown (host := "") (Or.inl (hw _ (List.mem_of_getElem? (i := 19) rfl))) Via.refl e0 pF_a1_gpus (hb hby d_prog_1_method_6_code_1) (n := 4) rfl ?_
  intro T1 X1 e1
  refine o_iloadN X1 hx (hb hby d_prog_1_method_6_code_4) (v := (2 : Int32)) rfl (n := 5) rfl ?_
  refine o_laload X1 hx hZ e1 pV_y1 (2) (by decide) (by decide) (v := (.long u2)) rfl (hb hby d_prog_1_method_6_code_5) (n := 6) rfl ?_
  exact o_lreturn X1 hx hret hlk (hb hby d_prog_1_method_6_code_6) (by decide) (by decide) e1 ⟨rfl, rfl, rfl⟩
theorem d_prog_1_method_8_code_0 : decode prog_1_method_8_code 0 = .ok (.aload_n 0, 1) := by decide +kernel
theorem d_prog_1_method_8_code_1 : decode prog_1_method_8_code 1 = .ok (.getfield 23, 3) := by decide +kernel
theorem d_prog_1_method_8_code_4 : decode prog_1_method_8_code 4 = .ok (.iload_n 1, 1) := by decide +kernel
theorem d_prog_1_method_8_code_5 : decode prog_1_method_8_code 5 = .ok (.laload, 1) := by decide +kernel
theorem d_prog_1_method_8_code_6 : decode prog_1_method_8_code 6 = .ok (.lreturn, 1) := by decide +kernel
theorem o_ef17 (m : MethodId) (a1 : Addr) : entryFrame m #[(.ref a1), (.int (0 : Int32))] 2 = mkF m 0 #[.val (.ref a1), .val (.int (0 : Int32))] [] := by first | (simp [entryFrame, mkF, argsToLocals, Value.category]; done) | rfl
set_option maxRecDepth 65536 in
set_option maxHeartbeats 40000000 in
theorem c_seq_0 (l : Launch) (Z : State) (a0 : Array Value) (hw : ∀ d ∈ tables_1, d.before a0 Z = true) (a1 : Addr) (y1 : Addr) (k1 : ClassId) (u0 : Int64) (u1 : Int64) (u2 : Int64) (h0 : Heap) (pF_a1_seq : Fld Z h0 a1 "com/example/overbook_guard/overbookguard/gate/Counters" "seq" "[J" (.ref y1)) (pV_y1 : Arv Z h0 y1 k1 .long (3 : Int32) [(.long u0), (.long u1), (.long u2)] (.long (0 : Int64))) :
    Does l Z (⟨"com/example/overbook_guard/overbookguard/gate/Counters", "seq", "(I)J"⟩ : MethodName) prog_1_method_8_code 2 (some .long) [] ({ frames := 0, cells := 0, slots := 0, locals := 0 } : Room) #[(.ref a1), (.int (0 : Int32))] h0 (Pur h0 (.long u0)) := by
  refine Does.of (plainFor_of_name o_pn0) ?_
  intro p e s m below meth c T0 hx hby hml hown hnm hret hlk hZ X0 e0
  have hown : s.vm.findClass "com/example/overbook_guard/overbookguard/gate/Counters" = some m.cls := hown
  have hml : c.maxLocals = 2 := hml
  have hret : meth.sig.returnType = some .long := hret
  refine o_entry (o_ef17 m a1) ?_
  refine o_aloadN X0 hx (hb hby d_prog_1_method_8_code_0) (v := (.ref a1)) rfl rfl (n := 1) rfl ?_
  refine o_getfield X0 hx hZ hown (host := "") (Or.inl (hw _ (List.mem_of_getElem? (i := 21) rfl))) Via.refl e0 pF_a1_seq (hb hby d_prog_1_method_8_code_1) (n := 4) rfl ?_
  intro T1 X1 e1
  refine o_iloadN X1 hx (hb hby d_prog_1_method_8_code_4) (v := (0 : Int32)) rfl (n := 5) rfl ?_
  refine o_laload X1 hx hZ e1 pV_y1 (0) (by decide) (by decide) (v := (.long u0)) rfl (hb hby d_prog_1_method_8_code_5) (n := 6) rfl ?_
  exact o_lreturn X1 hx hret hlk (hb hby d_prog_1_method_8_code_6) (by decide) (by decide) e1 ⟨rfl, rfl, rfl⟩
theorem o_ef18 (m : MethodId) (a1 : Addr) : entryFrame m #[(.ref a1), (.int (1 : Int32))] 2 = mkF m 0 #[.val (.ref a1), .val (.int (1 : Int32))] [] := by first | (simp [entryFrame, mkF, argsToLocals, Value.category]; done) | rfl
set_option maxRecDepth 65536 in
set_option maxHeartbeats 40000000 in
theorem c_seq_1 (l : Launch) (Z : State) (a0 : Array Value) (hw : ∀ d ∈ tables_1, d.before a0 Z = true) (a1 : Addr) (y1 : Addr) (k1 : ClassId) (u0 : Int64) (u1 : Int64) (u2 : Int64) (h0 : Heap) (pF_a1_seq : Fld Z h0 a1 "com/example/overbook_guard/overbookguard/gate/Counters" "seq" "[J" (.ref y1)) (pV_y1 : Arv Z h0 y1 k1 .long (3 : Int32) [(.long u0), (.long u1), (.long u2)] (.long (0 : Int64))) :
    Does l Z (⟨"com/example/overbook_guard/overbookguard/gate/Counters", "seq", "(I)J"⟩ : MethodName) prog_1_method_8_code 2 (some .long) [] ({ frames := 0, cells := 0, slots := 0, locals := 0 } : Room) #[(.ref a1), (.int (1 : Int32))] h0 (Pur h0 (.long u1)) := by
  refine Does.of (plainFor_of_name o_pn0) ?_
  intro p e s m below meth c T0 hx hby hml hown hnm hret hlk hZ X0 e0
  have hown : s.vm.findClass "com/example/overbook_guard/overbookguard/gate/Counters" = some m.cls := hown
  have hml : c.maxLocals = 2 := hml
  have hret : meth.sig.returnType = some .long := hret
  refine o_entry (o_ef18 m a1) ?_
  refine o_aloadN X0 hx (hb hby d_prog_1_method_8_code_0) (v := (.ref a1)) rfl rfl (n := 1) rfl ?_
  refine o_getfield X0 hx hZ hown (host := "") (Or.inl (hw _ (List.mem_of_getElem? (i := 21) rfl))) Via.refl e0 pF_a1_seq (hb hby d_prog_1_method_8_code_1) (n := 4) rfl ?_
  intro T1 X1 e1
  refine o_iloadN X1 hx (hb hby d_prog_1_method_8_code_4) (v := (1 : Int32)) rfl (n := 5) rfl ?_
  refine o_laload X1 hx hZ e1 pV_y1 (1) (by decide) (by decide) (v := (.long u1)) rfl (hb hby d_prog_1_method_8_code_5) (n := 6) rfl ?_
  exact o_lreturn X1 hx hret hlk (hb hby d_prog_1_method_8_code_6) (by decide) (by decide) e1 ⟨rfl, rfl, rfl⟩
theorem o_ef19 (m : MethodId) (a1 : Addr) : entryFrame m #[(.ref a1), (.int (2 : Int32))] 2 = mkF m 0 #[.val (.ref a1), .val (.int (2 : Int32))] [] := by first | (simp [entryFrame, mkF, argsToLocals, Value.category]; done) | rfl
set_option maxRecDepth 65536 in
set_option maxHeartbeats 40000000 in
theorem c_seq_2 (l : Launch) (Z : State) (a0 : Array Value) (hw : ∀ d ∈ tables_1, d.before a0 Z = true) (a1 : Addr) (y1 : Addr) (k1 : ClassId) (u0 : Int64) (u1 : Int64) (u2 : Int64) (h0 : Heap) (pF_a1_seq : Fld Z h0 a1 "com/example/overbook_guard/overbookguard/gate/Counters" "seq" "[J" (.ref y1)) (pV_y1 : Arv Z h0 y1 k1 .long (3 : Int32) [(.long u0), (.long u1), (.long u2)] (.long (0 : Int64))) :
    Does l Z (⟨"com/example/overbook_guard/overbookguard/gate/Counters", "seq", "(I)J"⟩ : MethodName) prog_1_method_8_code 2 (some .long) [] ({ frames := 0, cells := 0, slots := 0, locals := 0 } : Room) #[(.ref a1), (.int (2 : Int32))] h0 (Pur h0 (.long u2)) := by
  refine Does.of (plainFor_of_name o_pn0) ?_
  intro p e s m below meth c T0 hx hby hml hown hnm hret hlk hZ X0 e0
  have hown : s.vm.findClass "com/example/overbook_guard/overbookguard/gate/Counters" = some m.cls := hown
  have hml : c.maxLocals = 2 := hml
  have hret : meth.sig.returnType = some .long := hret
  refine o_entry (o_ef19 m a1) ?_
  refine o_aloadN X0 hx (hb hby d_prog_1_method_8_code_0) (v := (.ref a1)) rfl rfl (n := 1) rfl ?_
  refine o_getfield X0 hx hZ hown (host := "") (Or.inl (hw _ (List.mem_of_getElem? (i := 21) rfl))) Via.refl e0 pF_a1_seq (hb hby d_prog_1_method_8_code_1) (n := 4) rfl ?_
  intro T1 X1 e1
  refine o_iloadN X1 hx (hb hby d_prog_1_method_8_code_4) (v := (2 : Int32)) rfl (n := 5) rfl ?_
  refine o_laload X1 hx hZ e1 pV_y1 (2) (by decide) (by decide) (v := (.long u2)) rfl (hb hby d_prog_1_method_8_code_5) (n := 6) rfl ?_
  exact o_lreturn X1 hx hret hlk (hb hby d_prog_1_method_8_code_6) (by decide) (by decide) e1 ⟨rfl, rfl, rfl⟩
theorem o_pd0 : parseMethodDescriptor "(I)V" = some ⟨[.int], none⟩ := by decide +kernel
theorem o_pd1 : parseMethodDescriptor "(IZZJJJ)V" = some ⟨[.int, .boolean, .boolean, .long, .long, .long], none⟩ := by decide +kernel
theorem o_pd2 : parseMethodDescriptor "(I)Z" = some ⟨[.int], some .boolean⟩ := by decide +kernel
theorem o_pd3 : parseMethodDescriptor "(I)J" = some ⟨[.int], some .long⟩ := by decide +kernel
theorem o_ef20 (m : MethodId) (p0 : Int32) (p1 : Int32) (p2 : Int64) (p3 : Int64) (p4 : Int64) : entryFrame m #[(.int p0), (.int p1), (.long p2), (.long p3), (.long p4)] maxLocals = mkF m 0 #[.val (.int p0), .val (.int p1), .val (.long p2), .second, .val (.long p3), .second, .val (.long p4), .second, .unset, .unset, .unset, .unset, .unset, .unset, .unset, .unset, .unset, .unset, .unset] [] := by first | (simp [entryFrame, mkF, argsToLocals, Value.category, maxLocals]; done) | rfl
theorem o_pn1 : plainName "com/example/overbook_guard/overbookguard/gate/CountersSetPinLaw" = true := by first | (simp [plainName, overriddenIn]; done) | decide +kernel
set_option maxRecDepth 65536 in
set_option maxHeartbeats 40000000 in
theorem o_law (l : Launch) (Z : State) (a0 : Array Value) (hw : ∀ d ∈ tables_1, d.before a0 Z = true) (p0 : Int32) (p1 : Int32) (p2 : Int64) (p3 : Int64) (p4 : Int64) (h0 : Heap) (n0 : Nat) (Z0 : n0 ≤ h0.size) :
    Does l Z x code maxLocals ret tables_1 room_1 #[(.int p0), (.int p1), (.long p2), (.long p3), (.long p4)] h0 (fun v h L => v = some (.int 1) ∧ Fr n0 L) := by
  refine Does.of (plainFor_of_name o_pn1) ?_
  intro p e s m below meth c T0 hx hby hml hown hnm hret hlk hZ X0 e0
  have hown : s.vm.findClass "com/example/overbook_guard/overbookguard/gate/CountersSetPinLaw" = some m.cls := hown
  have hml : c.maxLocals = 19 := hml
  have hret : meth.sig.returnType = some .boolean := hret
  refine o_entry (o_ef20 m p0 p1 p2 p3 p4) ?_
  have N0 := Fr.nil n0
  rcases o_mod3 p0 with q | q | q
  · refine o_iloadN X0 hx (hb hby at_0) (v := p0) rfl (n := 1) rfl ?_
    refine o_ldc X0 hx hZ (v := (2147483647 : Int32)) hown (hw _ (List.mem_of_getElem? (i := 0) rfl)) (hb hby at_1) (n := 3) rfl ?_
    refine o_iand X0 hx (hb hby at_3) (v := (p0 &&& (2147483647 : Int32))) rfl (n := 4) rfl ?_
    refine o_iconst X0 hx (hb hby at_4) (v := (3 : Int32)) rfl (n := 5) rfl ?_
    refine o_irem X0 hx (hb hby at_5) (by decide) (v := (0 : Int32)) q (n := 6) rfl ?_
    refine o_istore X0 hx (hb hby at_6) (Ls' := #[.val (.int p0), .val (.int p1), .val (.long p2), .second, .val (.long p3), .second, .val (.long p4), .second, .val (.int (0 : Int32)), .unset, .unset, .unset, .unset, .unset, .unset, .unset, .unset, .unset, .unset]) rfl (n := 8) rfl ?_
    refine o_iload X0 hx (hb hby at_8) (v := (0 : Int32)) rfl (n := 10) rfl ?_
    refine o_iconst X0 hx (hb hby at_10) (v := (2 : Int32)) rfl (n := 11) rfl ?_
    refine o_icmpY X0 hx (hb hby at_11) (XT.ii_ne_t (by decide)) (by decide) (n := 18) (by decide) ?_
    refine o_iload X0 hx (hb hby at_18) (v := (0 : Int32)) rfl (n := 20) rfl ?_
    refine o_iconst X0 hx (hb hby at_20) (v := (1 : Int32)) rfl (n := 21) rfl ?_
    refine o_iadd X0 hx (hb hby at_21) (v := (1 : Int32)) (by decide) (n := 22) rfl ?_
    refine o_istore X0 hx (hb hby at_22) (Ls' := #[.val (.int p0), .val (.int p1), .val (.long p2), .second, .val (.long p3), .second, .val (.long p4), .second, .val (.int (0 : Int32)), .val (.int (1 : Int32)), .unset, .unset, .unset, .unset, .unset, .unset, .unset, .unset, .unset]) rfl (n := 24) rfl ?_
    have kj1 : ∀ b_ : Int32, b_ = (o_t 1 p1) → Goes p e below s (fun v h L => v = some (.int 1) ∧ Fr n0 L) (room_1).cells (room_1).slots (T0.setTop (mkF m 35 #[.val (.int p0), .val (.int p1), .val (.long p2), .second, .val (.long p3), .second, .val (.long p4), .second, .val (.int (0 : Int32)), .val (.int (1 : Int32)), .unset, .unset, .unset, .unset, .unset, .unset, .unset, .unset, .unset] [(.int b_)])) := by
      intro b_ hb_
      subst hb_
      refine o_istore X0 hx (hb hby at_35) (Ls' := #[.val (.int p0), .val (.int p1), .val (.long p2), .second, .val (.long p3), .second, .val (.long p4), .second, .val (.int (0 : Int32)), .val (.int (1 : Int32)), .val (.int (o_t 1 p1)), .unset, .unset, .unset, .unset, .unset, .unset, .unset, .unset]) rfl (n := 37) rfl ?_
      have kj2 : ∀ b_ : Int32, b_ = (o_t 2 p1) → Goes p e below s (fun v h L => v = some (.int 1) ∧ Fr n0 L) (room_1).cells (room_1).slots (T0.setTop (mkF m 48 #[.val (.int p0), .val (.int p1), .val (.long p2), .second, .val (.long p3), .second, .val (.long p4), .second, .val (.int (0 : Int32)), .val (.int (1 : Int32)), .val (.int (o_t 1 p1)), .unset, .unset, .unset, .unset, .unset, .unset, .unset, .unset] [(.int b_)])) := by
        intro b_ hb_
        subst hb_
        refine o_istore X0 hx (hb hby at_48) (Ls' := #[.val (.int p0), .val (.int p1), .val (.long p2), .second, .val (.long p3), .second, .val (.long p4), .second, .val (.int (0 : Int32)), .val (.int (1 : Int32)), .val (.int (o_t 1 p1)), .val (.int (o_t 2 p1)), .unset, .unset, .unset, .unset, .unset, .unset, .unset]) rfl (n := 50) rfl ?_
        have kj3 : ∀ b_ : Int64, b_ = (o_s p1 p4) → Goes p e below s (fun v h L => v = some (.int 1) ∧ Fr n0 L) (room_1).cells (room_1).slots (T0.setTop (mkF m 64 #[.val (.int p0), .val (.int p1), .val (.long p2), .second, .val (.long p3), .second, .val (.long p4), .second, .val (.int (0 : Int32)), .val (.int (1 : Int32)), .val (.int (o_t 1 p1)), .val (.int (o_t 2 p1)), .unset, .unset, .unset, .unset, .unset, .unset, .unset] [(.long b_)])) := by
          intro b_ hb_
          subst hb_
          refine o_lstore X0 hx (hb hby at_64) (Ls' := #[.val (.int p0), .val (.int p1), .val (.long p2), .second, .val (.long p3), .second, .val (.long p4), .second, .val (.int (0 : Int32)), .val (.int (1 : Int32)), .val (.int (o_t 1 p1)), .val (.int (o_t 2 p1)), .val (.long (o_s p1 p4)), .second, .unset, .unset, .unset, .unset, .unset]) rfl (n := 66) rfl ?_
          have kj4 : ∀ b_ : Int64, b_ = (o_sq (o_s p1 p4)) → Goes p e below s (fun v h L => v = some (.int 1) ∧ Fr n0 L) (room_1).cells (room_1).slots (T0.setTop (mkF m 81 #[.val (.int p0), .val (.int p1), .val (.long p2), .second, .val (.long p3), .second, .val (.long p4), .second, .val (.int (0 : Int32)), .val (.int (1 : Int32)), .val (.int (o_t 1 p1)), .val (.int (o_t 2 p1)), .val (.long (o_s p1 p4)), .second, .unset, .unset, .unset, .unset, .unset] [(.long b_)])) := by
            intro b_ hb_
            subst hb_
            refine o_lstore X0 hx (hb hby at_81) (Ls' := #[.val (.int p0), .val (.int p1), .val (.long p2), .second, .val (.long p3), .second, .val (.long p4), .second, .val (.int (0 : Int32)), .val (.int (1 : Int32)), .val (.int (o_t 1 p1)), .val (.int (o_t 2 p1)), .val (.long (o_s p1 p4)), .second, .val (.long (o_sq (o_s p1 p4))), .second, .unset, .unset, .unset]) rfl (n := 83) rfl ?_
            refine o_new X0 hx hZ hown (hw _ (List.mem_of_getElem? (i := 2) rfl)) (hw _ (List.mem_of_getElem? (i := 3) rfl)) (hw _ (List.mem_of_getElem? (i := 4) rfl)) e0 (hb hby at_83) (by decide) (by decide) (n := 86) rfl ?_
            intro T5 h5 b5 X5 e5 g5 E5 A5 D5
            have gg5 : n0 ≤ b5 := Nat.le_trans Z0 (Nat.le_of_eq g5.symm)
            have zz5 : n0 ≤ h5.size := Nat.le_trans Z0 E5.1
            have f6 : Fld Z h5 b5 "com/example/overbook_guard/overbookguard/gate/Counters" "held" "[Z" .null := D5 (Or.inr (hw _ (List.mem_of_getElem? (i := 13) rfl))) (ty := (.array .boolean)) (by decide)
            have f7 : Fld Z h5 b5 "com/example/overbook_guard/overbookguard/gate/Counters" "counted" "[Z" .null := D5 (Or.inr (hw _ (List.mem_of_getElem? (i := 15) rfl))) (ty := (.array .boolean)) (by decide)
            have f8 : Fld Z h5 b5 "com/example/overbook_guard/overbookguard/gate/Counters" "cores" "[J" .null := D5 (Or.inr (hw _ (List.mem_of_getElem? (i := 18) rfl))) (ty := (.array .long)) (by decide)
            have f9 : Fld Z h5 b5 "com/example/overbook_guard/overbookguard/gate/Counters" "gpus" "[J" .null := D5 (Or.inr (hw _ (List.mem_of_getElem? (i := 20) rfl))) (ty := (.array .long)) (by decide)
            have f10 : Fld Z h5 b5 "com/example/overbook_guard/overbookguard/gate/Counters" "seq" "[J" .null := D5 (Or.inr (hw _ (List.mem_of_getElem? (i := 22) rfl))) (ty := (.array .long)) (by decide)
            refine o_dup X5 hx (hb hby at_86) rfl (n := 87) rfl ?_
            refine o_iconst X5 hx (hb hby at_87) (v := (3 : Int32)) rfl (n := 88) rfl ?_
            refine o_callN X5 hx hZ rfl hown (hw _ (List.mem_of_getElem? (i := 5) rfl)) (hw _ (List.mem_of_getElem? (i := 6) rfl)) (hw _ (List.mem_of_getElem? (i := 4) rfl)) (hw _ (List.mem_of_getElem? (i := 7) rfl)) (by decide) e5 (a := b5) (argsL := [(.int (3 : Int32))]) (rest := [(.ref b5)]) (c_init l Z a0 hw b5 h5 n0 zz5 gg5 A5 f6 f7 f8 f9 f10) 1 (by decide) (by decide) (by decide) (by decide) (by rw [hml]; rfl) (lenOf o_pd0 rfl) rfl (Nat.le_of_eq rfl) (hb hby at_88) (n := 91) rfl ?_
            intro v11 T11 L11 X11 q11
            obtain ⟨y0_11, k0_11, y1_11, k1_11, y2_11, k2_11, y3_11, k3_11, y4_11, k4_11, rfl, Nq11, K11, sq11_y0, sq11_y1, sq11_y2, sq11_y3, sq11_y4, nq11_y0_y1, nq11_y0_y2, nq11_y0_y3, nq11_y0_y4, nq11_y1_y2, nq11_y1_y3, nq11_y1_y4, nq11_y2_y3, nq11_y2_y4, nq11_y3_y4, o11_0, o11_1, o11_2, o11_3, o11_4, o11_5, o11_6, o11_7, o11_8, o11_9, o11_10⟩ := q11
            have N12 := Fr.app N0 Nq11
            have ne13 : b5 ≠ y0_11 := Nat.ne_of_lt (Nat.lt_of_lt_of_le A5.lt sq11_y0)
            have gg11_y0 : n0 ≤ y0_11 := Nat.le_trans zz5 sq11_y0
            have ne14 : b5 ≠ y1_11 := Nat.ne_of_lt (Nat.lt_of_lt_of_le A5.lt sq11_y1)
            have gg11_y1 : n0 ≤ y1_11 := Nat.le_trans zz5 sq11_y1
            have ne15 : b5 ≠ y2_11 := Nat.ne_of_lt (Nat.lt_of_lt_of_le A5.lt sq11_y2)
            have gg11_y2 : n0 ≤ y2_11 := Nat.le_trans zz5 sq11_y2
            have ne16 : b5 ≠ y3_11 := Nat.ne_of_lt (Nat.lt_of_lt_of_le A5.lt sq11_y3)
            have gg11_y3 : n0 ≤ y3_11 := Nat.le_trans zz5 sq11_y3
            have ne17 : b5 ≠ y4_11 := Nat.ne_of_lt (Nat.lt_of_lt_of_le A5.lt sq11_y4)
            have gg11_y4 : n0 ≤ y4_11 := Nat.le_trans zz5 sq11_y4
            have f18 := A5.keep K11
            have zz11 : n0 ≤ T11.heap.size := Nat.le_trans zz5 K11.1
            show Goes p e below s _ _ _ (T11.setTop (mkF m 91 #[.val (.int p0), .val (.int p1), .val (.long p2), .second, .val (.long p3), .second, .val (.long p4), .second, .val (.int (0 : Int32)), .val (.int (1 : Int32)), .val (.int (o_t 1 p1)), .val (.int (o_t 2 p1)), .val (.long (o_s p1 p4)), .second, .val (.long (o_sq (o_s p1 p4))), .second, .unset, .unset, .unset] [(.ref b5)]))
            refine o_astore X11 hx (hb hby at_91) rfl (Ls' := #[.val (.int p0), .val (.int p1), .val (.long p2), .second, .val (.long p3), .second, .val (.long p4), .second, .val (.int (0 : Int32)), .val (.int (1 : Int32)), .val (.int (o_t 1 p1)), .val (.int (o_t 2 p1)), .val (.long (o_s p1 p4)), .second, .val (.long (o_sq (o_s p1 p4))), .second, .val (.ref b5), .unset, .unset]) rfl (n := 93) rfl ?_
            refine o_aload X11 hx (hb hby at_93) (v := (.ref b5)) rfl rfl (n := 95) rfl ?_
            refine o_iload X11 hx (hb hby at_95) (v := (0 : Int32)) rfl (n := 97) rfl ?_
            have kj24 : ∀ b_ : Int32, b_ = (o_not (o_t 1 p1)) → Goes p e below s (fun v h L => v = some (.int 1) ∧ Fr n0 L) (room_1).cells (room_1).slots (T11.setTop (mkF m 107 #[.val (.int p0), .val (.int p1), .val (.long p2), .second, .val (.long p3), .second, .val (.long p4), .second, .val (.int (0 : Int32)), .val (.int (1 : Int32)), .val (.int (o_t 1 p1)), .val (.int (o_t 2 p1)), .val (.long (o_s p1 p4)), .second, .val (.long (o_sq (o_s p1 p4))), .second, .val (.ref b5), .unset, .unset] [(.int b_), (.int (0 : Int32)), (.ref b5)])) := by
              intro b_ hb_
              subst hb_
              have kj25 : ∀ b_ : Int32, b_ = (o_not (o_t 2 p1)) → Goes p e below s (fun v h L => v = some (.int 1) ∧ Fr n0 L) (room_1).cells (room_1).slots (T11.setTop (mkF m 117 #[.val (.int p0), .val (.int p1), .val (.long p2), .second, .val (.long p3), .second, .val (.long p4), .second, .val (.int (0 : Int32)), .val (.int (1 : Int32)), .val (.int (o_t 1 p1)), .val (.int (o_t 2 p1)), .val (.long (o_s p1 p4)), .second, .val (.long (o_sq (o_s p1 p4))), .second, .val (.ref b5), .unset, .unset] [(.int b_), (.int (o_not (o_t 1 p1))), (.int (0 : Int32)), (.ref b5)])) := by
                intro b_ hb_
                subst hb_
                refine o_lloadN X11 hx (hb hby at_117) (v := p2) rfl (n := 118) rfl ?_
                refine o_ldc2_w X11 hx hZ (v := (-1 : Int64)) hown (hw _ (List.mem_of_getElem? (i := 23) rfl)) (hb hby at_118) (n := 121) rfl ?_
                refine o_lxor X11 hx (hb hby at_121) (v := (p2 ^^^ (-1 : Int64))) rfl (n := 122) rfl ?_
                refine o_lload X11 hx (hb hby at_122) (v := p3) rfl (n := 124) rfl ?_
                refine o_ldc2_w X11 hx hZ (v := (-1 : Int64)) hown (hw _ (List.mem_of_getElem? (i := 23) rfl)) (hb hby at_124) (n := 127) rfl ?_
                refine o_lxor X11 hx (hb hby at_127) (v := (p3 ^^^ (-1 : Int64))) rfl (n := 128) rfl ?_
                refine o_lload X11 hx (hb hby at_128) (v := (o_s p1 p4)) rfl (n := 130) rfl ?_
                refine o_ldc2_w X11 hx hZ (v := (-1 : Int64)) hown (hw _ (List.mem_of_getElem? (i := 23) rfl)) (hb hby at_130) (n := 133) rfl ?_
                refine o_lxor X11 hx (hb hby at_133) (v := ((o_s p1 p4) ^^^ (-1 : Int64))) rfl (n := 134) rfl ?_
                refine o_callV X11 hx hZ hown (hw _ (List.mem_of_getElem? (i := 24) rfl)) (hw _ (List.mem_of_getElem? (i := 25) rfl)) (hw _ (List.mem_of_getElem? (i := 27) rfl)) (hw _ (List.mem_of_getElem? (i := 26) rfl)) (hw _ (List.mem_of_getElem? (i := 4) rfl)) (hw _ (List.mem_of_getElem? (i := 28) rfl)) (by decide) (rfl : T11.heap = T11.heap) o11_0 (argsL := [(.int (0 : Int32)), (.int (o_not (o_t 1 p1))), (.int (o_not (o_t 2 p1))), (.long (p2 ^^^ (-1 : Int64))), (.long (p3 ^^^ (-1 : Int64))), (.long ((o_s p1 p4) ^^^ (-1 : Int64)))]) (rest := []) (c_set_0 l Z a0 hw b5 y0_11 y1_11 y2_11 y3_11 y4_11 k0_11 k1_11 k2_11 k3_11 k4_11 (o_not (o_t 1 p1)) (o_not (o_t 2 p1)) (p2 ^^^ (-1 : Int64)) (p3 ^^^ (-1 : Int64)) ((o_s p1 p4) ^^^ (-1 : Int64)) (0 : Int32) (0 : Int32) (0 : Int32) (0 : Int32) (0 : Int32) (0 : Int32) (0 : Int64) (0 : Int64) (0 : Int64) (0 : Int64) (0 : Int64) (0 : Int64) (0 : Int64) (0 : Int64) (0 : Int64) T11.heap n0 zz11 gg11_y0 gg11_y1 gg11_y2 gg11_y3 gg11_y4 o11_1 o11_2 o11_3 o11_4 o11_5 o11_6 o11_7 o11_8 o11_9 o11_10 ne13 ne14 ne15 ne16 ne17 nq11_y0_y1 nq11_y0_y2 nq11_y0_y3 nq11_y0_y4 nq11_y1_y2 nq11_y1_y3 nq11_y1_y4 nq11_y2_y3 nq11_y2_y4 nq11_y3_y4 (o_nn _) (o_nn _)) 0 (by decide) (by decide) (by decide) (by decide) (by rw [hml]; rfl) (lenOf o_pd1 rfl) rfl (Nat.le_of_eq rfl) (hb hby at_134) (n := 137) rfl ?_
                intro v26 T26 L26 X26 q26
                obtain ⟨rfl, Nq26, K26, o26_0, o26_1, o26_2, o26_3, o26_4⟩ := q26
                have N27 := Fr.app N12 Nq26
                have f28 := o11_0.keep K26
                have f29 := o11_1.keep K26 (ninS ne13 (ninS ne14 (ninS ne15 (ninS ne16 (ninS ne17 nin0)))))
                have f30 := o11_2.keep K26 (ninS ne13 (ninS ne14 (ninS ne15 (ninS ne16 (ninS ne17 nin0)))))
                have f31 := o11_3.keep K26 (ninS ne13 (ninS ne14 (ninS ne15 (ninS ne16 (ninS ne17 nin0)))))
                have f32 := o11_4.keep K26 (ninS ne13 (ninS ne14 (ninS ne15 (ninS ne16 (ninS ne17 nin0)))))
                have f33 := o11_5.keep K26 (ninS ne13 (ninS ne14 (ninS ne15 (ninS ne16 (ninS ne17 nin0)))))
                have zz26 : n0 ≤ T26.heap.size := Nat.le_trans zz11 K26.1
                show Goes p e below s _ _ _ (T26.setTop (mkF m 137 #[.val (.int p0), .val (.int p1), .val (.long p2), .second, .val (.long p3), .second, .val (.long p4), .second, .val (.int (0 : Int32)), .val (.int (1 : Int32)), .val (.int (o_t 1 p1)), .val (.int (o_t 2 p1)), .val (.long (o_s p1 p4)), .second, .val (.long (o_sq (o_s p1 p4))), .second, .val (.ref b5), .unset, .unset] []))
                refine o_aload X26 hx (hb hby at_137) (v := (.ref b5)) rfl rfl (n := 139) rfl ?_
                refine o_iload X26 hx (hb hby at_139) (v := (0 : Int32)) rfl (n := 141) rfl ?_
                refine o_iload X26 hx (hb hby at_141) (v := (o_t 1 p1)) rfl (n := 143) rfl ?_
                refine o_iload X26 hx (hb hby at_143) (v := (o_t 2 p1)) rfl (n := 145) rfl ?_
                refine o_lloadN X26 hx (hb hby at_145) (v := p2) rfl (n := 146) rfl ?_
                refine o_lload X26 hx (hb hby at_146) (v := p3) rfl (n := 148) rfl ?_
                refine o_lload X26 hx (hb hby at_148) (v := (o_s p1 p4)) rfl (n := 150) rfl ?_
                refine o_callV X26 hx hZ hown (hw _ (List.mem_of_getElem? (i := 24) rfl)) (hw _ (List.mem_of_getElem? (i := 25) rfl)) (hw _ (List.mem_of_getElem? (i := 27) rfl)) (hw _ (List.mem_of_getElem? (i := 26) rfl)) (hw _ (List.mem_of_getElem? (i := 4) rfl)) (hw _ (List.mem_of_getElem? (i := 28) rfl)) (by decide) (rfl : T26.heap = T26.heap) f28 (argsL := [(.int (0 : Int32)), (.int (o_t 1 p1)), (.int (o_t 2 p1)), (.long p2), (.long p3), (.long (o_s p1 p4))]) (rest := []) (c_set_0 l Z a0 hw b5 y0_11 y1_11 y2_11 y3_11 y4_11 k0_11 k1_11 k2_11 k3_11 k4_11 (o_t 1 p1) (o_t 2 p1) p2 p3 (o_s p1 p4) (o_not (o_t 1 p1)) (0 : Int32) (0 : Int32) (o_not (o_t 2 p1)) (0 : Int32) (0 : Int32) (p2 ^^^ (-1 : Int64)) (0 : Int64) (0 : Int64) (p3 ^^^ (-1 : Int64)) (0 : Int64) (0 : Int64) (o_sq ((o_s p1 p4) ^^^ (-1 : Int64))) (0 : Int64) (0 : Int64) T26.heap n0 zz26 gg11_y0 gg11_y1 gg11_y2 gg11_y3 gg11_y4 f29 f30 f31 f32 f33 o26_0 o26_1 o26_2 o26_3 o26_4 ne13 ne14 ne15 ne16 ne17 nq11_y0_y1 nq11_y0_y2 nq11_y0_y3 nq11_y0_y4 nq11_y1_y2 nq11_y1_y3 nq11_y1_y4 nq11_y2_y3 nq11_y2_y4 nq11_y3_y4 (o_nt _ _) (o_nt _ _)) 0 (by decide) (by decide) (by decide) (by decide) (by rw [hml]; rfl) (lenOf o_pd1 rfl) rfl (Nat.le_of_eq rfl) (hb hby at_150) (n := 153) rfl ?_
                intro v39 T39 L39 X39 q39
                obtain ⟨rfl, Nq39, K39, o39_0, o39_1, o39_2, o39_3, o39_4⟩ := q39
                have N40 := Fr.app N27 Nq39
                have f41 := f28.keep K39
                have f42 := f29.keep K39 (ninS ne13 (ninS ne14 (ninS ne15 (ninS ne16 (ninS ne17 nin0)))))
                have f43 := f30.keep K39 (ninS ne13 (ninS ne14 (ninS ne15 (ninS ne16 (ninS ne17 nin0)))))
                have f44 := f31.keep K39 (ninS ne13 (ninS ne14 (ninS ne15 (ninS ne16 (ninS ne17 nin0)))))
                have f45 := f32.keep K39 (ninS ne13 (ninS ne14 (ninS ne15 (ninS ne16 (ninS ne17 nin0)))))
                have f46 := f33.keep K39 (ninS ne13 (ninS ne14 (ninS ne15 (ninS ne16 (ninS ne17 nin0)))))
                have zz39 : n0 ≤ T39.heap.size := Nat.le_trans zz26 K39.1
                show Goes p e below s _ _ _ (T39.setTop (mkF m 153 #[.val (.int p0), .val (.int p1), .val (.long p2), .second, .val (.long p3), .second, .val (.long p4), .second, .val (.int (0 : Int32)), .val (.int (1 : Int32)), .val (.int (o_t 1 p1)), .val (.int (o_t 2 p1)), .val (.long (o_s p1 p4)), .second, .val (.long (o_sq (o_s p1 p4))), .second, .val (.ref b5), .unset, .unset] []))
                refine o_aload X39 hx (hb hby at_153) (v := (.ref b5)) rfl rfl (n := 155) rfl ?_
                refine o_iload X39 hx (hb hby at_155) (v := (0 : Int32)) rfl (n := 157) rfl ?_
                refine o_callV X39 hx hZ hown (hw _ (List.mem_of_getElem? (i := 30) rfl)) (hw _ (List.mem_of_getElem? (i := 31) rfl)) (hw _ (List.mem_of_getElem? (i := 33) rfl)) (hw _ (List.mem_of_getElem? (i := 32) rfl)) (hw _ (List.mem_of_getElem? (i := 4) rfl)) (hw _ (List.mem_of_getElem? (i := 34) rfl)) (by decide) (rfl : T39.heap = T39.heap) f41 (argsL := [(.int (0 : Int32))]) (rest := []) (c_held_0 l Z a0 hw b5 y0_11 k0_11 (o_t 1 p1) (0 : Int32) (0 : Int32) T39.heap f42 o39_0 (o_nt _ _)) 0 (by decide) (by decide) (by decide) (by decide) (by rw [hml]; rfl) (lenOf o_pd2 rfl) rfl (Nat.le_of_eq rfl) (hb hby at_157) (n := 160) rfl ?_
                intro v52 T52 L52 X52 q52
                obtain ⟨rfl, e52, rfl⟩ := q52
                have N53 := Fr.app N40 (Fr.nil n0)
                show Goes p e below s _ _ _ (T52.setTop (mkF m 160 #[.val (.int p0), .val (.int p1), .val (.long p2), .second, .val (.long p3), .second, .val (.long p4), .second, .val (.int (0 : Int32)), .val (.int (1 : Int32)), .val (.int (o_t 1 p1)), .val (.int (o_t 2 p1)), .val (.long (o_s p1 p4)), .second, .val (.long (o_sq (o_s p1 p4))), .second, .val (.ref b5), .unset, .unset] [(.int (o_t 1 p1))]))
                refine o_iload X52 hx (hb hby at_160) (v := (o_t 1 p1)) rfl (n := 162) rfl ?_
                refine o_icmpN X52 hx (hb hby at_162) (XT.ii_ne_f rfl) (n := 165) rfl ?_
                refine o_aload X52 hx (hb hby at_165) (v := (.ref b5)) rfl rfl (n := 167) rfl ?_
                refine o_iload X52 hx (hb hby at_167) (v := (0 : Int32)) rfl (n := 169) rfl ?_
                refine o_callV X52 hx hZ hown (hw _ (List.mem_of_getElem? (i := 35) rfl)) (hw _ (List.mem_of_getElem? (i := 36) rfl)) (hw _ (List.mem_of_getElem? (i := 38) rfl)) (hw _ (List.mem_of_getElem? (i := 37) rfl)) (hw _ (List.mem_of_getElem? (i := 4) rfl)) (hw _ (List.mem_of_getElem? (i := 39) rfl)) (by decide) e52 f41 (argsL := [(.int (0 : Int32))]) (rest := []) (c_counted_0 l Z a0 hw b5 y1_11 k1_11 (o_t 2 p1) (0 : Int32) (0 : Int32) T39.heap f43 o39_1 (o_nt _ _)) 0 (by decide) (by decide) (by decide) (by decide) (by rw [hml]; rfl) (lenOf o_pd2 rfl) rfl (Nat.le_of_eq rfl) (hb hby at_169) (n := 172) rfl ?_
                intro v54 T54 L54 X54 q54
                obtain ⟨rfl, e54, rfl⟩ := q54
                have N55 := Fr.app N53 (Fr.nil n0)
                show Goes p e below s _ _ _ (T54.setTop (mkF m 172 #[.val (.int p0), .val (.int p1), .val (.long p2), .second, .val (.long p3), .second, .val (.long p4), .second, .val (.int (0 : Int32)), .val (.int (1 : Int32)), .val (.int (o_t 1 p1)), .val (.int (o_t 2 p1)), .val (.long (o_s p1 p4)), .second, .val (.long (o_sq (o_s p1 p4))), .second, .val (.ref b5), .unset, .unset] [(.int (o_t 2 p1))]))
                refine o_iload X54 hx (hb hby at_172) (v := (o_t 2 p1)) rfl (n := 174) rfl ?_
                refine o_icmpN X54 hx (hb hby at_174) (XT.ii_ne_f rfl) (n := 177) rfl ?_
                refine o_aload X54 hx (hb hby at_177) (v := (.ref b5)) rfl rfl (n := 179) rfl ?_
                refine o_iload X54 hx (hb hby at_179) (v := (0 : Int32)) rfl (n := 181) rfl ?_
                refine o_callV X54 hx hZ hown (hw _ (List.mem_of_getElem? (i := 40) rfl)) (hw _ (List.mem_of_getElem? (i := 41) rfl)) (hw _ (List.mem_of_getElem? (i := 43) rfl)) (hw _ (List.mem_of_getElem? (i := 42) rfl)) (hw _ (List.mem_of_getElem? (i := 4) rfl)) (hw _ (List.mem_of_getElem? (i := 44) rfl)) (by decide) e54 f41 (argsL := [(.int (0 : Int32))]) (rest := []) (c_cores_0 l Z a0 hw b5 y2_11 k2_11 p2 (0 : Int64) (0 : Int64) T39.heap f44 o39_2) 0 (by decide) (by decide) (by decide) (by decide) (by rw [hml]; rfl) (lenOf o_pd3 rfl) rfl (Nat.le_of_eq rfl) (hb hby at_181) (n := 184) rfl ?_
                intro v56 T56 L56 X56 q56
                obtain ⟨rfl, e56, rfl⟩ := q56
                have N57 := Fr.app N55 (Fr.nil n0)
                show Goes p e below s _ _ _ (T56.setTop (mkF m 184 #[.val (.int p0), .val (.int p1), .val (.long p2), .second, .val (.long p3), .second, .val (.long p4), .second, .val (.int (0 : Int32)), .val (.int (1 : Int32)), .val (.int (o_t 1 p1)), .val (.int (o_t 2 p1)), .val (.long (o_s p1 p4)), .second, .val (.long (o_sq (o_s p1 p4))), .second, .val (.ref b5), .unset, .unset] [(.long p2)]))
                refine o_lloadN X56 hx (hb hby at_184) (v := p2) rfl (n := 185) rfl ?_
                refine o_lcmp X56 hx (hb hby at_185) (n := 186) rfl ?_
                refine o_ifN X56 hx (hb hby at_186) (XT.ll_ne_f rfl) (n := 189) rfl ?_
                refine o_aload X56 hx (hb hby at_189) (v := (.ref b5)) rfl rfl (n := 191) rfl ?_
                refine o_iload X56 hx (hb hby at_191) (v := (0 : Int32)) rfl (n := 193) rfl ?_
                refine o_callV X56 hx hZ hown (hw _ (List.mem_of_getElem? (i := 45) rfl)) (hw _ (List.mem_of_getElem? (i := 46) rfl)) (hw _ (List.mem_of_getElem? (i := 48) rfl)) (hw _ (List.mem_of_getElem? (i := 47) rfl)) (hw _ (List.mem_of_getElem? (i := 4) rfl)) (hw _ (List.mem_of_getElem? (i := 49) rfl)) (by decide) e56 f41 (argsL := [(.int (0 : Int32))]) (rest := []) (c_gpus_0 l Z a0 hw b5 y3_11 k3_11 p3 (0 : Int64) (0 : Int64) T39.heap f45 o39_3) 0 (by decide) (by decide) (by decide) (by decide) (by rw [hml]; rfl) (lenOf o_pd3 rfl) rfl (Nat.le_of_eq rfl) (hb hby at_193) (n := 196) rfl ?_
                intro v58 T58 L58 X58 q58
                obtain ⟨rfl, e58, rfl⟩ := q58
                have N59 := Fr.app N57 (Fr.nil n0)
                show Goes p e below s _ _ _ (T58.setTop (mkF m 196 #[.val (.int p0), .val (.int p1), .val (.long p2), .second, .val (.long p3), .second, .val (.long p4), .second, .val (.int (0 : Int32)), .val (.int (1 : Int32)), .val (.int (o_t 1 p1)), .val (.int (o_t 2 p1)), .val (.long (o_s p1 p4)), .second, .val (.long (o_sq (o_s p1 p4))), .second, .val (.ref b5), .unset, .unset] [(.long p3)]))
                refine o_lload X58 hx (hb hby at_196) (v := p3) rfl (n := 198) rfl ?_
                refine o_lcmp X58 hx (hb hby at_198) (n := 199) rfl ?_
                refine o_ifN X58 hx (hb hby at_199) (XT.ll_ne_f rfl) (n := 202) rfl ?_
                refine o_aload X58 hx (hb hby at_202) (v := (.ref b5)) rfl rfl (n := 204) rfl ?_
                refine o_iload X58 hx (hb hby at_204) (v := (0 : Int32)) rfl (n := 206) rfl ?_
                refine o_callV X58 hx hZ hown (hw _ (List.mem_of_getElem? (i := 50) rfl)) (hw _ (List.mem_of_getElem? (i := 51) rfl)) (hw _ (List.mem_of_getElem? (i := 53) rfl)) (hw _ (List.mem_of_getElem? (i := 52) rfl)) (hw _ (List.mem_of_getElem? (i := 4) rfl)) (hw _ (List.mem_of_getElem? (i := 54) rfl)) (by decide) e58 f41 (argsL := [(.int (0 : Int32))]) (rest := []) (c_seq_0 l Z a0 hw b5 y4_11 k4_11 (o_sq (o_s p1 p4)) (0 : Int64) (0 : Int64) T39.heap f46 o39_4) 0 (by decide) (by decide) (by decide) (by decide) (by rw [hml]; rfl) (lenOf o_pd3 rfl) rfl (Nat.le_of_eq rfl) (hb hby at_206) (n := 209) rfl ?_
                intro v60 T60 L60 X60 q60
                obtain ⟨rfl, e60, rfl⟩ := q60
                have N61 := Fr.app N59 (Fr.nil n0)
                show Goes p e below s _ _ _ (T60.setTop (mkF m 209 #[.val (.int p0), .val (.int p1), .val (.long p2), .second, .val (.long p3), .second, .val (.long p4), .second, .val (.int (0 : Int32)), .val (.int (1 : Int32)), .val (.int (o_t 1 p1)), .val (.int (o_t 2 p1)), .val (.long (o_s p1 p4)), .second, .val (.long (o_sq (o_s p1 p4))), .second, .val (.ref b5), .unset, .unset] [(.long (o_sq (o_s p1 p4)))]))
                refine o_lload X60 hx (hb hby at_209) (v := (o_sq (o_s p1 p4))) rfl (n := 211) rfl ?_
                refine o_lcmp X60 hx (hb hby at_211) (n := 212) rfl ?_
                refine o_ifN X60 hx (hb hby at_212) (XT.ll_ne_f rfl) (n := 215) rfl ?_
                refine o_iconst X60 hx (hb hby at_215) (v := (1 : Int32)) rfl (n := 216) rfl ?_
                refine o_goto X60 hx (hb hby at_216) (by decide) (n := 220) (by decide) ?_
                refine o_istore X60 hx (hb hby at_220) (Ls' := #[.val (.int p0), .val (.int p1), .val (.long p2), .second, .val (.long p3), .second, .val (.long p4), .second, .val (.int (0 : Int32)), .val (.int (1 : Int32)), .val (.int (o_t 1 p1)), .val (.int (o_t 2 p1)), .val (.long (o_s p1 p4)), .second, .val (.long (o_sq (o_s p1 p4))), .second, .val (.ref b5), .val (.int (1 : Int32)), .unset]) rfl (n := 222) rfl ?_
                refine o_aload X60 hx (hb hby at_222) (v := (.ref b5)) rfl rfl (n := 224) rfl ?_
                refine o_iload X60 hx (hb hby at_224) (v := (1 : Int32)) rfl (n := 226) rfl ?_
                refine o_callV X60 hx hZ hown (hw _ (List.mem_of_getElem? (i := 30) rfl)) (hw _ (List.mem_of_getElem? (i := 31) rfl)) (hw _ (List.mem_of_getElem? (i := 33) rfl)) (hw _ (List.mem_of_getElem? (i := 32) rfl)) (hw _ (List.mem_of_getElem? (i := 4) rfl)) (hw _ (List.mem_of_getElem? (i := 34) rfl)) (by decide) e60 f41 (argsL := [(.int (1 : Int32))]) (rest := []) (c_held_1 l Z a0 hw b5 y0_11 k0_11 (o_t 1 p1) (0 : Int32) (0 : Int32) T39.heap f42 o39_0 (by decide)) 0 (by decide) (by decide) (by decide) (by decide) (by rw [hml]; rfl) (lenOf o_pd2 rfl) rfl (Nat.le_of_eq rfl) (hb hby at_226) (n := 229) rfl ?_
                intro v62 T62 L62 X62 q62
                obtain ⟨rfl, e62, rfl⟩ := q62
                have N63 := Fr.app N61 (Fr.nil n0)
                show Goes p e below s _ _ _ (T62.setTop (mkF m 229 #[.val (.int p0), .val (.int p1), .val (.long p2), .second, .val (.long p3), .second, .val (.long p4), .second, .val (.int (0 : Int32)), .val (.int (1 : Int32)), .val (.int (o_t 1 p1)), .val (.int (o_t 2 p1)), .val (.long (o_s p1 p4)), .second, .val (.long (o_sq (o_s p1 p4))), .second, .val (.ref b5), .val (.int (1 : Int32)), .unset] [(.int (0 : Int32))]))
                refine o_ifN X62 hx (hb hby at_229) (XT.i0_ne_f (by decide)) (n := 232) rfl ?_
                refine o_aload X62 hx (hb hby at_232) (v := (.ref b5)) rfl rfl (n := 234) rfl ?_
                refine o_iload X62 hx (hb hby at_234) (v := (1 : Int32)) rfl (n := 236) rfl ?_
                refine o_callV X62 hx hZ hown (hw _ (List.mem_of_getElem? (i := 40) rfl)) (hw _ (List.mem_of_getElem? (i := 41) rfl)) (hw _ (List.mem_of_getElem? (i := 43) rfl)) (hw _ (List.mem_of_getElem? (i := 42) rfl)) (hw _ (List.mem_of_getElem? (i := 4) rfl)) (hw _ (List.mem_of_getElem? (i := 44) rfl)) (by decide) e62 f41 (argsL := [(.int (1 : Int32))]) (rest := []) (c_cores_1 l Z a0 hw b5 y2_11 k2_11 p2 (0 : Int64) (0 : Int64) T39.heap f44 o39_2) 0 (by decide) (by decide) (by decide) (by decide) (by rw [hml]; rfl) (lenOf o_pd3 rfl) rfl (Nat.le_of_eq rfl) (hb hby at_236) (n := 239) rfl ?_
                intro v64 T64 L64 X64 q64
                obtain ⟨rfl, e64, rfl⟩ := q64
                have N65 := Fr.app N63 (Fr.nil n0)
                show Goes p e below s _ _ _ (T64.setTop (mkF m 239 #[.val (.int p0), .val (.int p1), .val (.long p2), .second, .val (.long p3), .second, .val (.long p4), .second, .val (.int (0 : Int32)), .val (.int (1 : Int32)), .val (.int (o_t 1 p1)), .val (.int (o_t 2 p1)), .val (.long (o_s p1 p4)), .second, .val (.long (o_sq (o_s p1 p4))), .second, .val (.ref b5), .val (.int (1 : Int32)), .unset] [(.long (0 : Int64))]))
                refine o_lconst X64 hx (hb hby at_239) (v := (0 : Int64)) rfl (n := 240) rfl ?_
                refine o_lcmp X64 hx (hb hby at_240) (n := 241) rfl ?_
                refine o_ifN X64 hx (hb hby at_241) (XT.ll_ne_f (by decide)) (n := 244) rfl ?_
                refine o_aload X64 hx (hb hby at_244) (v := (.ref b5)) rfl rfl (n := 246) rfl ?_
                refine o_iload X64 hx (hb hby at_246) (v := (1 : Int32)) rfl (n := 248) rfl ?_
                refine o_callV X64 hx hZ hown (hw _ (List.mem_of_getElem? (i := 45) rfl)) (hw _ (List.mem_of_getElem? (i := 46) rfl)) (hw _ (List.mem_of_getElem? (i := 48) rfl)) (hw _ (List.mem_of_getElem? (i := 47) rfl)) (hw _ (List.mem_of_getElem? (i := 4) rfl)) (hw _ (List.mem_of_getElem? (i := 49) rfl)) (by decide) e64 f41 (argsL := [(.int (1 : Int32))]) (rest := []) (c_gpus_1 l Z a0 hw b5 y3_11 k3_11 p3 (0 : Int64) (0 : Int64) T39.heap f45 o39_3) 0 (by decide) (by decide) (by decide) (by decide) (by rw [hml]; rfl) (lenOf o_pd3 rfl) rfl (Nat.le_of_eq rfl) (hb hby at_248) (n := 251) rfl ?_
                intro v66 T66 L66 X66 q66
                obtain ⟨rfl, e66, rfl⟩ := q66
                have N67 := Fr.app N65 (Fr.nil n0)
                show Goes p e below s _ _ _ (T66.setTop (mkF m 251 #[.val (.int p0), .val (.int p1), .val (.long p2), .second, .val (.long p3), .second, .val (.long p4), .second, .val (.int (0 : Int32)), .val (.int (1 : Int32)), .val (.int (o_t 1 p1)), .val (.int (o_t 2 p1)), .val (.long (o_s p1 p4)), .second, .val (.long (o_sq (o_s p1 p4))), .second, .val (.ref b5), .val (.int (1 : Int32)), .unset] [(.long (0 : Int64))]))
                refine o_lconst X66 hx (hb hby at_251) (v := (0 : Int64)) rfl (n := 252) rfl ?_
                refine o_lcmp X66 hx (hb hby at_252) (n := 253) rfl ?_
                refine o_ifN X66 hx (hb hby at_253) (XT.ll_ne_f (by decide)) (n := 256) rfl ?_
                refine o_aload X66 hx (hb hby at_256) (v := (.ref b5)) rfl rfl (n := 258) rfl ?_
                refine o_iload X66 hx (hb hby at_258) (v := (1 : Int32)) rfl (n := 260) rfl ?_
                refine o_callV X66 hx hZ hown (hw _ (List.mem_of_getElem? (i := 50) rfl)) (hw _ (List.mem_of_getElem? (i := 51) rfl)) (hw _ (List.mem_of_getElem? (i := 53) rfl)) (hw _ (List.mem_of_getElem? (i := 52) rfl)) (hw _ (List.mem_of_getElem? (i := 4) rfl)) (hw _ (List.mem_of_getElem? (i := 54) rfl)) (by decide) e66 f41 (argsL := [(.int (1 : Int32))]) (rest := []) (c_seq_1 l Z a0 hw b5 y4_11 k4_11 (o_sq (o_s p1 p4)) (0 : Int64) (0 : Int64) T39.heap f46 o39_4) 0 (by decide) (by decide) (by decide) (by decide) (by rw [hml]; rfl) (lenOf o_pd3 rfl) rfl (Nat.le_of_eq rfl) (hb hby at_260) (n := 263) rfl ?_
                intro v68 T68 L68 X68 q68
                obtain ⟨rfl, e68, rfl⟩ := q68
                have N69 := Fr.app N67 (Fr.nil n0)
                show Goes p e below s _ _ _ (T68.setTop (mkF m 263 #[.val (.int p0), .val (.int p1), .val (.long p2), .second, .val (.long p3), .second, .val (.long p4), .second, .val (.int (0 : Int32)), .val (.int (1 : Int32)), .val (.int (o_t 1 p1)), .val (.int (o_t 2 p1)), .val (.long (o_s p1 p4)), .second, .val (.long (o_sq (o_s p1 p4))), .second, .val (.ref b5), .val (.int (1 : Int32)), .unset] [(.long (0 : Int64))]))
                refine o_lconst X68 hx (hb hby at_263) (v := (0 : Int64)) rfl (n := 264) rfl ?_
                refine o_lcmp X68 hx (hb hby at_264) (n := 265) rfl ?_
                refine o_ifN X68 hx (hb hby at_265) (XT.ll_ne_f (by decide)) (n := 268) rfl ?_
                refine o_iconst X68 hx (hb hby at_268) (v := (1 : Int32)) rfl (n := 269) rfl ?_
                refine o_goto X68 hx (hb hby at_269) (by decide) (n := 273) (by decide) ?_
                refine o_istore X68 hx (hb hby at_273) (Ls' := #[.val (.int p0), .val (.int p1), .val (.long p2), .second, .val (.long p3), .second, .val (.long p4), .second, .val (.int (0 : Int32)), .val (.int (1 : Int32)), .val (.int (o_t 1 p1)), .val (.int (o_t 2 p1)), .val (.long (o_s p1 p4)), .second, .val (.long (o_sq (o_s p1 p4))), .second, .val (.ref b5), .val (.int (1 : Int32)), .val (.int (1 : Int32))]) rfl (n := 275) rfl ?_
                refine o_iload X68 hx (hb hby at_275) (v := (1 : Int32)) rfl (n := 277) rfl ?_
                refine o_ifN X68 hx (hb hby at_277) (XT.i0_eq_f (by decide)) (n := 280) rfl ?_
                refine o_iload X68 hx (hb hby at_280) (v := (1 : Int32)) rfl (n := 282) rfl ?_
                refine o_ifN X68 hx (hb hby at_282) (XT.i0_eq_f (by decide)) (n := 285) rfl ?_
                refine o_iconst X68 hx (hb hby at_285) (v := (1 : Int32)) rfl (n := 286) rfl ?_
                refine o_goto X68 hx (hb hby at_286) (by decide) (n := 290) (by decide) ?_
                exact o_nreturn X68 hx hret hlk (t := .boolean) (by simp) (hb hby at_290) (by decide) (by decide) e68 ⟨rfl, N69⟩
              refine o_iload X11 hx (hb hby at_107) (v := (o_t 2 p1)) rfl (n := 109) rfl ?_
              by_cases hc109 : (o_t 2 p1) = (0 : Int32)
              · refine o_ifN X11 hx (hb hby at_109) (XT.i0_ne_f hc109) (n := 112) rfl ?_
                refine o_iconst X11 hx (hb hby at_112) (v := (1 : Int32)) rfl (n := 113) rfl ?_
                refine o_goto X11 hx (hb hby at_113) (by decide) (n := 117) (by decide) ?_
                exact kj25 _ (by simp [o_not, hc109])
              · refine o_ifY X11 hx (hb hby at_109) (XT.i0_ne_t hc109) (by decide) (n := 116) (by decide) ?_
                refine o_iconst X11 hx (hb hby at_116) (v := (0 : Int32)) rfl (n := 117) rfl ?_
                exact kj25 _ (by simp [o_not, hc109])
            refine o_iload X11 hx (hb hby at_97) (v := (o_t 1 p1)) rfl (n := 99) rfl ?_
            by_cases hc99 : (o_t 1 p1) = (0 : Int32)
            · refine o_ifN X11 hx (hb hby at_99) (XT.i0_ne_f hc99) (n := 102) rfl ?_
              refine o_iconst X11 hx (hb hby at_102) (v := (1 : Int32)) rfl (n := 103) rfl ?_
              refine o_goto X11 hx (hb hby at_103) (by decide) (n := 107) (by decide) ?_
              exact kj24 _ (by simp [o_not, hc99])
            · refine o_ifY X11 hx (hb hby at_99) (XT.i0_ne_t hc99) (by decide) (n := 106) (by decide) ?_
              refine o_iconst X11 hx (hb hby at_106) (v := (0 : Int32)) rfl (n := 107) rfl ?_
              exact kj24 _ (by simp [o_not, hc99])
          refine o_lload X0 hx (hb hby at_66) (v := (o_s p1 p4)) rfl (n := 68) rfl ?_
          refine o_ldc2_w X0 hx hZ (v := (-9223372036854775808 : Int64)) hown (hw _ (List.mem_of_getElem? (i := 1) rfl)) (hb hby at_68) (n := 71) rfl ?_
          refine o_lcmp X0 hx (hb hby at_71) (n := 72) rfl ?_
          by_cases hc72 : (o_s p1 p4) = (-9223372036854775808 : Int64)
          · refine o_ifN X0 hx (hb hby at_72) (XT.ll_ne_f hc72) (n := 75) rfl ?_
            refine o_lconst X0 hx (hb hby at_75) (v := (0 : Int64)) rfl (n := 76) rfl ?_
            refine o_goto X0 hx (hb hby at_76) (by decide) (n := 81) (by decide) ?_
            exact kj4 _ (by simp [o_sq, hc72])
          · refine o_ifY X0 hx (hb hby at_72) (XT.ll_ne_t hc72) (by decide) (n := 79) (by decide) ?_
            refine o_lload X0 hx (hb hby at_79) (v := (o_s p1 p4)) rfl (n := 81) rfl ?_
            exact kj4 _ (by simp [o_sq, hc72])
        refine o_iloadN X0 hx (hb hby at_50) (v := p1) rfl (n := 51) rfl ?_
        refine o_iconst X0 hx (hb hby at_51) (v := (4 : Int32)) rfl (n := 52) rfl ?_
        refine o_iand X0 hx (hb hby at_52) (v := (p1 &&& (4 : Int32))) rfl (n := 53) rfl ?_
        by_cases hc53 : (p1 &&& (4 : Int32)) = (0 : Int32)
        · refine o_ifY X0 hx (hb hby at_53) (XT.i0_eq_t hc53) (by decide) (n := 62) (by decide) ?_
          refine o_lload X0 hx (hb hby at_62) (v := p4) rfl (n := 64) rfl ?_
          exact kj3 _ (by simp [o_s, hc53])
        · refine o_ifN X0 hx (hb hby at_53) (XT.i0_eq_f hc53) (n := 56) rfl ?_
          refine o_ldc2_w X0 hx hZ (v := (-9223372036854775808 : Int64)) hown (hw _ (List.mem_of_getElem? (i := 1) rfl)) (hb hby at_56) (n := 59) rfl ?_
          refine o_goto X0 hx (hb hby at_59) (by decide) (n := 64) (by decide) ?_
          exact kj3 _ (by simp [o_s, hc53])
      refine o_iloadN X0 hx (hb hby at_37) (v := p1) rfl (n := 38) rfl ?_
      refine o_iconst X0 hx (hb hby at_38) (v := (2 : Int32)) rfl (n := 39) rfl ?_
      refine o_iand X0 hx (hb hby at_39) (v := (p1 &&& (2 : Int32))) rfl (n := 40) rfl ?_
      by_cases hc40 : (p1 &&& (2 : Int32)) = (0 : Int32)
      · refine o_ifY X0 hx (hb hby at_40) (XT.i0_eq_t hc40) (by decide) (n := 47) (by decide) ?_
        refine o_iconst X0 hx (hb hby at_47) (v := (0 : Int32)) rfl (n := 48) rfl ?_
        exact kj2 _ (by simp [o_t, hc40])
      · refine o_ifN X0 hx (hb hby at_40) (XT.i0_eq_f hc40) (n := 43) rfl ?_
        refine o_iconst X0 hx (hb hby at_43) (v := (1 : Int32)) rfl (n := 44) rfl ?_
        refine o_goto X0 hx (hb hby at_44) (by decide) (n := 48) (by decide) ?_
        exact kj2 _ (by simp [o_t, hc40])
    refine o_iloadN X0 hx (hb hby at_24) (v := p1) rfl (n := 25) rfl ?_
    refine o_iconst X0 hx (hb hby at_25) (v := (1 : Int32)) rfl (n := 26) rfl ?_
    refine o_iand X0 hx (hb hby at_26) (v := (p1 &&& (1 : Int32))) rfl (n := 27) rfl ?_
    by_cases hc27 : (p1 &&& (1 : Int32)) = (0 : Int32)
    · refine o_ifY X0 hx (hb hby at_27) (XT.i0_eq_t hc27) (by decide) (n := 34) (by decide) ?_
      refine o_iconst X0 hx (hb hby at_34) (v := (0 : Int32)) rfl (n := 35) rfl ?_
      exact kj1 _ (by simp [o_t, hc27])
    · refine o_ifN X0 hx (hb hby at_27) (XT.i0_eq_f hc27) (n := 30) rfl ?_
      refine o_iconst X0 hx (hb hby at_30) (v := (1 : Int32)) rfl (n := 31) rfl ?_
      refine o_goto X0 hx (hb hby at_31) (by decide) (n := 35) (by decide) ?_
      exact kj1 _ (by simp [o_t, hc27])
  · refine o_iloadN X0 hx (hb hby at_0) (v := p0) rfl (n := 1) rfl ?_
    refine o_ldc X0 hx hZ (v := (2147483647 : Int32)) hown (hw _ (List.mem_of_getElem? (i := 0) rfl)) (hb hby at_1) (n := 3) rfl ?_
    refine o_iand X0 hx (hb hby at_3) (v := (p0 &&& (2147483647 : Int32))) rfl (n := 4) rfl ?_
    refine o_iconst X0 hx (hb hby at_4) (v := (3 : Int32)) rfl (n := 5) rfl ?_
    refine o_irem X0 hx (hb hby at_5) (by decide) (v := (1 : Int32)) q (n := 6) rfl ?_
    refine o_istore X0 hx (hb hby at_6) (Ls' := #[.val (.int p0), .val (.int p1), .val (.long p2), .second, .val (.long p3), .second, .val (.long p4), .second, .val (.int (1 : Int32)), .unset, .unset, .unset, .unset, .unset, .unset, .unset, .unset, .unset, .unset]) rfl (n := 8) rfl ?_
    refine o_iload X0 hx (hb hby at_8) (v := (1 : Int32)) rfl (n := 10) rfl ?_
    refine o_iconst X0 hx (hb hby at_10) (v := (2 : Int32)) rfl (n := 11) rfl ?_
    refine o_icmpY X0 hx (hb hby at_11) (XT.ii_ne_t (by decide)) (by decide) (n := 18) (by decide) ?_
    refine o_iload X0 hx (hb hby at_18) (v := (1 : Int32)) rfl (n := 20) rfl ?_
    refine o_iconst X0 hx (hb hby at_20) (v := (1 : Int32)) rfl (n := 21) rfl ?_
    refine o_iadd X0 hx (hb hby at_21) (v := (2 : Int32)) (by decide) (n := 22) rfl ?_
    refine o_istore X0 hx (hb hby at_22) (Ls' := #[.val (.int p0), .val (.int p1), .val (.long p2), .second, .val (.long p3), .second, .val (.long p4), .second, .val (.int (1 : Int32)), .val (.int (2 : Int32)), .unset, .unset, .unset, .unset, .unset, .unset, .unset, .unset, .unset]) rfl (n := 24) rfl ?_
    have kj70 : ∀ b_ : Int32, b_ = (o_t 1 p1) → Goes p e below s (fun v h L => v = some (.int 1) ∧ Fr n0 L) (room_1).cells (room_1).slots (T0.setTop (mkF m 35 #[.val (.int p0), .val (.int p1), .val (.long p2), .second, .val (.long p3), .second, .val (.long p4), .second, .val (.int (1 : Int32)), .val (.int (2 : Int32)), .unset, .unset, .unset, .unset, .unset, .unset, .unset, .unset, .unset] [(.int b_)])) := by
      intro b_ hb_
      subst hb_
      refine o_istore X0 hx (hb hby at_35) (Ls' := #[.val (.int p0), .val (.int p1), .val (.long p2), .second, .val (.long p3), .second, .val (.long p4), .second, .val (.int (1 : Int32)), .val (.int (2 : Int32)), .val (.int (o_t 1 p1)), .unset, .unset, .unset, .unset, .unset, .unset, .unset, .unset]) rfl (n := 37) rfl ?_
      have kj71 : ∀ b_ : Int32, b_ = (o_t 2 p1) → Goes p e below s (fun v h L => v = some (.int 1) ∧ Fr n0 L) (room_1).cells (room_1).slots (T0.setTop (mkF m 48 #[.val (.int p0), .val (.int p1), .val (.long p2), .second, .val (.long p3), .second, .val (.long p4), .second, .val (.int (1 : Int32)), .val (.int (2 : Int32)), .val (.int (o_t 1 p1)), .unset, .unset, .unset, .unset, .unset, .unset, .unset, .unset] [(.int b_)])) := by
        intro b_ hb_
        subst hb_
        refine o_istore X0 hx (hb hby at_48) (Ls' := #[.val (.int p0), .val (.int p1), .val (.long p2), .second, .val (.long p3), .second, .val (.long p4), .second, .val (.int (1 : Int32)), .val (.int (2 : Int32)), .val (.int (o_t 1 p1)), .val (.int (o_t 2 p1)), .unset, .unset, .unset, .unset, .unset, .unset, .unset]) rfl (n := 50) rfl ?_
        have kj72 : ∀ b_ : Int64, b_ = (o_s p1 p4) → Goes p e below s (fun v h L => v = some (.int 1) ∧ Fr n0 L) (room_1).cells (room_1).slots (T0.setTop (mkF m 64 #[.val (.int p0), .val (.int p1), .val (.long p2), .second, .val (.long p3), .second, .val (.long p4), .second, .val (.int (1 : Int32)), .val (.int (2 : Int32)), .val (.int (o_t 1 p1)), .val (.int (o_t 2 p1)), .unset, .unset, .unset, .unset, .unset, .unset, .unset] [(.long b_)])) := by
          intro b_ hb_
          subst hb_
          refine o_lstore X0 hx (hb hby at_64) (Ls' := #[.val (.int p0), .val (.int p1), .val (.long p2), .second, .val (.long p3), .second, .val (.long p4), .second, .val (.int (1 : Int32)), .val (.int (2 : Int32)), .val (.int (o_t 1 p1)), .val (.int (o_t 2 p1)), .val (.long (o_s p1 p4)), .second, .unset, .unset, .unset, .unset, .unset]) rfl (n := 66) rfl ?_
          have kj73 : ∀ b_ : Int64, b_ = (o_sq (o_s p1 p4)) → Goes p e below s (fun v h L => v = some (.int 1) ∧ Fr n0 L) (room_1).cells (room_1).slots (T0.setTop (mkF m 81 #[.val (.int p0), .val (.int p1), .val (.long p2), .second, .val (.long p3), .second, .val (.long p4), .second, .val (.int (1 : Int32)), .val (.int (2 : Int32)), .val (.int (o_t 1 p1)), .val (.int (o_t 2 p1)), .val (.long (o_s p1 p4)), .second, .unset, .unset, .unset, .unset, .unset] [(.long b_)])) := by
            intro b_ hb_
            subst hb_
            refine o_lstore X0 hx (hb hby at_81) (Ls' := #[.val (.int p0), .val (.int p1), .val (.long p2), .second, .val (.long p3), .second, .val (.long p4), .second, .val (.int (1 : Int32)), .val (.int (2 : Int32)), .val (.int (o_t 1 p1)), .val (.int (o_t 2 p1)), .val (.long (o_s p1 p4)), .second, .val (.long (o_sq (o_s p1 p4))), .second, .unset, .unset, .unset]) rfl (n := 83) rfl ?_
            refine o_new X0 hx hZ hown (hw _ (List.mem_of_getElem? (i := 2) rfl)) (hw _ (List.mem_of_getElem? (i := 3) rfl)) (hw _ (List.mem_of_getElem? (i := 4) rfl)) e0 (hb hby at_83) (by decide) (by decide) (n := 86) rfl ?_
            intro T74 h74 b74 X74 e74 g74 E74 A74 D74
            have gg74 : n0 ≤ b74 := Nat.le_trans Z0 (Nat.le_of_eq g74.symm)
            have zz74 : n0 ≤ h74.size := Nat.le_trans Z0 E74.1
            have f75 : Fld Z h74 b74 "com/example/overbook_guard/overbookguard/gate/Counters" "held" "[Z" .null := D74 (Or.inr (hw _ (List.mem_of_getElem? (i := 13) rfl))) (ty := (.array .boolean)) (by decide)
            have f76 : Fld Z h74 b74 "com/example/overbook_guard/overbookguard/gate/Counters" "counted" "[Z" .null := D74 (Or.inr (hw _ (List.mem_of_getElem? (i := 15) rfl))) (ty := (.array .boolean)) (by decide)
            have f77 : Fld Z h74 b74 "com/example/overbook_guard/overbookguard/gate/Counters" "cores" "[J" .null := D74 (Or.inr (hw _ (List.mem_of_getElem? (i := 18) rfl))) (ty := (.array .long)) (by decide)
            have f78 : Fld Z h74 b74 "com/example/overbook_guard/overbookguard/gate/Counters" "gpus" "[J" .null := D74 (Or.inr (hw _ (List.mem_of_getElem? (i := 20) rfl))) (ty := (.array .long)) (by decide)
            have f79 : Fld Z h74 b74 "com/example/overbook_guard/overbookguard/gate/Counters" "seq" "[J" .null := D74 (Or.inr (hw _ (List.mem_of_getElem? (i := 22) rfl))) (ty := (.array .long)) (by decide)
            refine o_dup X74 hx (hb hby at_86) rfl (n := 87) rfl ?_
            refine o_iconst X74 hx (hb hby at_87) (v := (3 : Int32)) rfl (n := 88) rfl ?_
            refine o_callN X74 hx hZ rfl hown (hw _ (List.mem_of_getElem? (i := 5) rfl)) (hw _ (List.mem_of_getElem? (i := 6) rfl)) (hw _ (List.mem_of_getElem? (i := 4) rfl)) (hw _ (List.mem_of_getElem? (i := 7) rfl)) (by decide) e74 (a := b74) (argsL := [(.int (3 : Int32))]) (rest := [(.ref b74)]) (c_init l Z a0 hw b74 h74 n0 zz74 gg74 A74 f75 f76 f77 f78 f79) 1 (by decide) (by decide) (by decide) (by decide) (by rw [hml]; rfl) (lenOf o_pd0 rfl) rfl (Nat.le_of_eq rfl) (hb hby at_88) (n := 91) rfl ?_
            intro v80 T80 L80 X80 q80
            obtain ⟨y0_80, k0_80, y1_80, k1_80, y2_80, k2_80, y3_80, k3_80, y4_80, k4_80, rfl, Nq80, K80, sq80_y0, sq80_y1, sq80_y2, sq80_y3, sq80_y4, nq80_y0_y1, nq80_y0_y2, nq80_y0_y3, nq80_y0_y4, nq80_y1_y2, nq80_y1_y3, nq80_y1_y4, nq80_y2_y3, nq80_y2_y4, nq80_y3_y4, o80_0, o80_1, o80_2, o80_3, o80_4, o80_5, o80_6, o80_7, o80_8, o80_9, o80_10⟩ := q80
            have N81 := Fr.app N0 Nq80
            have ne82 : b74 ≠ y0_80 := Nat.ne_of_lt (Nat.lt_of_lt_of_le A74.lt sq80_y0)
            have gg80_y0 : n0 ≤ y0_80 := Nat.le_trans zz74 sq80_y0
            have ne83 : b74 ≠ y1_80 := Nat.ne_of_lt (Nat.lt_of_lt_of_le A74.lt sq80_y1)
            have gg80_y1 : n0 ≤ y1_80 := Nat.le_trans zz74 sq80_y1
            have ne84 : b74 ≠ y2_80 := Nat.ne_of_lt (Nat.lt_of_lt_of_le A74.lt sq80_y2)
            have gg80_y2 : n0 ≤ y2_80 := Nat.le_trans zz74 sq80_y2
            have ne85 : b74 ≠ y3_80 := Nat.ne_of_lt (Nat.lt_of_lt_of_le A74.lt sq80_y3)
            have gg80_y3 : n0 ≤ y3_80 := Nat.le_trans zz74 sq80_y3
            have ne86 : b74 ≠ y4_80 := Nat.ne_of_lt (Nat.lt_of_lt_of_le A74.lt sq80_y4)
            have gg80_y4 : n0 ≤ y4_80 := Nat.le_trans zz74 sq80_y4
            have f87 := A74.keep K80
            have zz80 : n0 ≤ T80.heap.size := Nat.le_trans zz74 K80.1
            show Goes p e below s _ _ _ (T80.setTop (mkF m 91 #[.val (.int p0), .val (.int p1), .val (.long p2), .second, .val (.long p3), .second, .val (.long p4), .second, .val (.int (1 : Int32)), .val (.int (2 : Int32)), .val (.int (o_t 1 p1)), .val (.int (o_t 2 p1)), .val (.long (o_s p1 p4)), .second, .val (.long (o_sq (o_s p1 p4))), .second, .unset, .unset, .unset] [(.ref b74)]))
            refine o_astore X80 hx (hb hby at_91) rfl (Ls' := #[.val (.int p0), .val (.int p1), .val (.long p2), .second, .val (.long p3), .second, .val (.long p4), .second, .val (.int (1 : Int32)), .val (.int (2 : Int32)), .val (.int (o_t 1 p1)), .val (.int (o_t 2 p1)), .val (.long (o_s p1 p4)), .second, .val (.long (o_sq (o_s p1 p4))), .second, .val (.ref b74), .unset, .unset]) rfl (n := 93) rfl ?_
            refine o_aload X80 hx (hb hby at_93) (v := (.ref b74)) rfl rfl (n := 95) rfl ?_
            refine o_iload X80 hx (hb hby at_95) (v := (1 : Int32)) rfl (n := 97) rfl ?_
            have kj93 : ∀ b_ : Int32, b_ = (o_not (o_t 1 p1)) → Goes p e below s (fun v h L => v = some (.int 1) ∧ Fr n0 L) (room_1).cells (room_1).slots (T80.setTop (mkF m 107 #[.val (.int p0), .val (.int p1), .val (.long p2), .second, .val (.long p3), .second, .val (.long p4), .second, .val (.int (1 : Int32)), .val (.int (2 : Int32)), .val (.int (o_t 1 p1)), .val (.int (o_t 2 p1)), .val (.long (o_s p1 p4)), .second, .val (.long (o_sq (o_s p1 p4))), .second, .val (.ref b74), .unset, .unset] [(.int b_), (.int (1 : Int32)), (.ref b74)])) := by
              intro b_ hb_
              subst hb_
              have kj94 : ∀ b_ : Int32, b_ = (o_not (o_t 2 p1)) → Goes p e below s (fun v h L => v = some (.int 1) ∧ Fr n0 L) (room_1).cells (room_1).slots (T80.setTop (mkF m 117 #[.val (.int p0), .val (.int p1), .val (.long p2), .second, .val (.long p3), .second, .val (.long p4), .second, .val (.int (1 : Int32)), .val (.int (2 : Int32)), .val (.int (o_t 1 p1)), .val (.int (o_t 2 p1)), .val (.long (o_s p1 p4)), .second, .val (.long (o_sq (o_s p1 p4))), .second, .val (.ref b74), .unset, .unset] [(.int b_), (.int (o_not (o_t 1 p1))), (.int (1 : Int32)), (.ref b74)])) := by
                intro b_ hb_
                subst hb_
                refine o_lloadN X80 hx (hb hby at_117) (v := p2) rfl (n := 118) rfl ?_
                refine o_ldc2_w X80 hx hZ (v := (-1 : Int64)) hown (hw _ (List.mem_of_getElem? (i := 23) rfl)) (hb hby at_118) (n := 121) rfl ?_
                refine o_lxor X80 hx (hb hby at_121) (v := (p2 ^^^ (-1 : Int64))) rfl (n := 122) rfl ?_
                refine o_lload X80 hx (hb hby at_122) (v := p3) rfl (n := 124) rfl ?_
                refine o_ldc2_w X80 hx hZ (v := (-1 : Int64)) hown (hw _ (List.mem_of_getElem? (i := 23) rfl)) (hb hby at_124) (n := 127) rfl ?_
                refine o_lxor X80 hx (hb hby at_127) (v := (p3 ^^^ (-1 : Int64))) rfl (n := 128) rfl ?_
                refine o_lload X80 hx (hb hby at_128) (v := (o_s p1 p4)) rfl (n := 130) rfl ?_
                refine o_ldc2_w X80 hx hZ (v := (-1 : Int64)) hown (hw _ (List.mem_of_getElem? (i := 23) rfl)) (hb hby at_130) (n := 133) rfl ?_
                refine o_lxor X80 hx (hb hby at_133) (v := ((o_s p1 p4) ^^^ (-1 : Int64))) rfl (n := 134) rfl ?_
                refine o_callV X80 hx hZ hown (hw _ (List.mem_of_getElem? (i := 24) rfl)) (hw _ (List.mem_of_getElem? (i := 25) rfl)) (hw _ (List.mem_of_getElem? (i := 27) rfl)) (hw _ (List.mem_of_getElem? (i := 26) rfl)) (hw _ (List.mem_of_getElem? (i := 4) rfl)) (hw _ (List.mem_of_getElem? (i := 28) rfl)) (by decide) (rfl : T80.heap = T80.heap) o80_0 (argsL := [(.int (1 : Int32)), (.int (o_not (o_t 1 p1))), (.int (o_not (o_t 2 p1))), (.long (p2 ^^^ (-1 : Int64))), (.long (p3 ^^^ (-1 : Int64))), (.long ((o_s p1 p4) ^^^ (-1 : Int64)))]) (rest := []) (c_set_1 l Z a0 hw b74 y0_80 y1_80 y2_80 y3_80 y4_80 k0_80 k1_80 k2_80 k3_80 k4_80 (o_not (o_t 1 p1)) (o_not (o_t 2 p1)) (p2 ^^^ (-1 : Int64)) (p3 ^^^ (-1 : Int64)) ((o_s p1 p4) ^^^ (-1 : Int64)) (0 : Int32) (0 : Int32) (0 : Int32) (0 : Int32) (0 : Int32) (0 : Int32) (0 : Int64) (0 : Int64) (0 : Int64) (0 : Int64) (0 : Int64) (0 : Int64) (0 : Int64) (0 : Int64) (0 : Int64) T80.heap n0 zz80 gg80_y0 gg80_y1 gg80_y2 gg80_y3 gg80_y4 o80_1 o80_2 o80_3 o80_4 o80_5 o80_6 o80_7 o80_8 o80_9 o80_10 ne82 ne83 ne84 ne85 ne86 nq80_y0_y1 nq80_y0_y2 nq80_y0_y3 nq80_y0_y4 nq80_y1_y2 nq80_y1_y3 nq80_y1_y4 nq80_y2_y3 nq80_y2_y4 nq80_y3_y4 (o_nn _) (o_nn _)) 0 (by decide) (by decide) (by decide) (by decide) (by rw [hml]; rfl) (lenOf o_pd1 rfl) rfl (Nat.le_of_eq rfl) (hb hby at_134) (n := 137) rfl ?_
                intro v95 T95 L95 X95 q95
                obtain ⟨rfl, Nq95, K95, o95_0, o95_1, o95_2, o95_3, o95_4⟩ := q95
                have N96 := Fr.app N81 Nq95
                have f97 := o80_0.keep K95
                have f98 := o80_1.keep K95 (ninS ne82 (ninS ne83 (ninS ne84 (ninS ne85 (ninS ne86 nin0)))))
                have f99 := o80_2.keep K95 (ninS ne82 (ninS ne83 (ninS ne84 (ninS ne85 (ninS ne86 nin0)))))
                have f100 := o80_3.keep K95 (ninS ne82 (ninS ne83 (ninS ne84 (ninS ne85 (ninS ne86 nin0)))))
                have f101 := o80_4.keep K95 (ninS ne82 (ninS ne83 (ninS ne84 (ninS ne85 (ninS ne86 nin0)))))
                have f102 := o80_5.keep K95 (ninS ne82 (ninS ne83 (ninS ne84 (ninS ne85 (ninS ne86 nin0)))))
                have zz95 : n0 ≤ T95.heap.size := Nat.le_trans zz80 K95.1
                show Goes p e below s _ _ _ (T95.setTop (mkF m 137 #[.val (.int p0), .val (.int p1), .val (.long p2), .second, .val (.long p3), .second, .val (.long p4), .second, .val (.int (1 : Int32)), .val (.int (2 : Int32)), .val (.int (o_t 1 p1)), .val (.int (o_t 2 p1)), .val (.long (o_s p1 p4)), .second, .val (.long (o_sq (o_s p1 p4))), .second, .val (.ref b74), .unset, .unset] []))
                refine o_aload X95 hx (hb hby at_137) (v := (.ref b74)) rfl rfl (n := 139) rfl ?_
                refine o_iload X95 hx (hb hby at_139) (v := (1 : Int32)) rfl (n := 141) rfl ?_
                refine o_iload X95 hx (hb hby at_141) (v := (o_t 1 p1)) rfl (n := 143) rfl ?_
                refine o_iload X95 hx (hb hby at_143) (v := (o_t 2 p1)) rfl (n := 145) rfl ?_
                refine o_lloadN X95 hx (hb hby at_145) (v := p2) rfl (n := 146) rfl ?_
                refine o_lload X95 hx (hb hby at_146) (v := p3) rfl (n := 148) rfl ?_
                refine o_lload X95 hx (hb hby at_148) (v := (o_s p1 p4)) rfl (n := 150) rfl ?_
                refine o_callV X95 hx hZ hown (hw _ (List.mem_of_getElem? (i := 24) rfl)) (hw _ (List.mem_of_getElem? (i := 25) rfl)) (hw _ (List.mem_of_getElem? (i := 27) rfl)) (hw _ (List.mem_of_getElem? (i := 26) rfl)) (hw _ (List.mem_of_getElem? (i := 4) rfl)) (hw _ (List.mem_of_getElem? (i := 28) rfl)) (by decide) (rfl : T95.heap = T95.heap) f97 (argsL := [(.int (1 : Int32)), (.int (o_t 1 p1)), (.int (o_t 2 p1)), (.long p2), (.long p3), (.long (o_s p1 p4))]) (rest := []) (c_set_1 l Z a0 hw b74 y0_80 y1_80 y2_80 y3_80 y4_80 k0_80 k1_80 k2_80 k3_80 k4_80 (o_t 1 p1) (o_t 2 p1) p2 p3 (o_s p1 p4) (0 : Int32) (o_not (o_t 1 p1)) (0 : Int32) (0 : Int32) (o_not (o_t 2 p1)) (0 : Int32) (0 : Int64) (p2 ^^^ (-1 : Int64)) (0 : Int64) (0 : Int64) (p3 ^^^ (-1 : Int64)) (0 : Int64) (0 : Int64) (o_sq ((o_s p1 p4) ^^^ (-1 : Int64))) (0 : Int64) T95.heap n0 zz95 gg80_y0 gg80_y1 gg80_y2 gg80_y3 gg80_y4 f98 f99 f100 f101 f102 o95_0 o95_1 o95_2 o95_3 o95_4 ne82 ne83 ne84 ne85 ne86 nq80_y0_y1 nq80_y0_y2 nq80_y0_y3 nq80_y0_y4 nq80_y1_y2 nq80_y1_y3 nq80_y1_y4 nq80_y2_y3 nq80_y2_y4 nq80_y3_y4 (o_nt _ _) (o_nt _ _)) 0 (by decide) (by decide) (by decide) (by decide) (by rw [hml]; rfl) (lenOf o_pd1 rfl) rfl (Nat.le_of_eq rfl) (hb hby at_150) (n := 153) rfl ?_
                intro v108 T108 L108 X108 q108
                obtain ⟨rfl, Nq108, K108, o108_0, o108_1, o108_2, o108_3, o108_4⟩ := q108
                have N109 := Fr.app N96 Nq108
                have f110 := f97.keep K108
                have f111 := f98.keep K108 (ninS ne82 (ninS ne83 (ninS ne84 (ninS ne85 (ninS ne86 nin0)))))
                have f112 := f99.keep K108 (ninS ne82 (ninS ne83 (ninS ne84 (ninS ne85 (ninS ne86 nin0)))))
                have f113 := f100.keep K108 (ninS ne82 (ninS ne83 (ninS ne84 (ninS ne85 (ninS ne86 nin0)))))
                have f114 := f101.keep K108 (ninS ne82 (ninS ne83 (ninS ne84 (ninS ne85 (ninS ne86 nin0)))))
                have f115 := f102.keep K108 (ninS ne82 (ninS ne83 (ninS ne84 (ninS ne85 (ninS ne86 nin0)))))
                have zz108 : n0 ≤ T108.heap.size := Nat.le_trans zz95 K108.1
                show Goes p e below s _ _ _ (T108.setTop (mkF m 153 #[.val (.int p0), .val (.int p1), .val (.long p2), .second, .val (.long p3), .second, .val (.long p4), .second, .val (.int (1 : Int32)), .val (.int (2 : Int32)), .val (.int (o_t 1 p1)), .val (.int (o_t 2 p1)), .val (.long (o_s p1 p4)), .second, .val (.long (o_sq (o_s p1 p4))), .second, .val (.ref b74), .unset, .unset] []))
                refine o_aload X108 hx (hb hby at_153) (v := (.ref b74)) rfl rfl (n := 155) rfl ?_
                refine o_iload X108 hx (hb hby at_155) (v := (1 : Int32)) rfl (n := 157) rfl ?_
                refine o_callV X108 hx hZ hown (hw _ (List.mem_of_getElem? (i := 30) rfl)) (hw _ (List.mem_of_getElem? (i := 31) rfl)) (hw _ (List.mem_of_getElem? (i := 33) rfl)) (hw _ (List.mem_of_getElem? (i := 32) rfl)) (hw _ (List.mem_of_getElem? (i := 4) rfl)) (hw _ (List.mem_of_getElem? (i := 34) rfl)) (by decide) (rfl : T108.heap = T108.heap) f110 (argsL := [(.int (1 : Int32))]) (rest := []) (c_held_1 l Z a0 hw b74 y0_80 k0_80 (0 : Int32) (o_t 1 p1) (0 : Int32) T108.heap f111 o108_0 (o_nt _ _)) 0 (by decide) (by decide) (by decide) (by decide) (by rw [hml]; rfl) (lenOf o_pd2 rfl) rfl (Nat.le_of_eq rfl) (hb hby at_157) (n := 160) rfl ?_
                intro v121 T121 L121 X121 q121
                obtain ⟨rfl, e121, rfl⟩ := q121
                have N122 := Fr.app N109 (Fr.nil n0)
                show Goes p e below s _ _ _ (T121.setTop (mkF m 160 #[.val (.int p0), .val (.int p1), .val (.long p2), .second, .val (.long p3), .second, .val (.long p4), .second, .val (.int (1 : Int32)), .val (.int (2 : Int32)), .val (.int (o_t 1 p1)), .val (.int (o_t 2 p1)), .val (.long (o_s p1 p4)), .second, .val (.long (o_sq (o_s p1 p4))), .second, .val (.ref b74), .unset, .unset] [(.int (o_t 1 p1))]))
                refine o_iload X121 hx (hb hby at_160) (v := (o_t 1 p1)) rfl (n := 162) rfl ?_
                refine o_icmpN X121 hx (hb hby at_162) (XT.ii_ne_f rfl) (n := 165) rfl ?_
                refine o_aload X121 hx (hb hby at_165) (v := (.ref b74)) rfl rfl (n := 167) rfl ?_
                refine o_iload X121 hx (hb hby at_167) (v := (1 : Int32)) rfl (n := 169) rfl ?_
                refine o_callV X121 hx hZ hown (hw _ (List.mem_of_getElem? (i := 35) rfl)) (hw _ (List.mem_of_getElem? (i := 36) rfl)) (hw _ (List.mem_of_getElem? (i := 38) rfl)) (hw _ (List.mem_of_getElem? (i := 37) rfl)) (hw _ (List.mem_of_getElem? (i := 4) rfl)) (hw _ (List.mem_of_getElem? (i := 39) rfl)) (by decide) e121 f110 (argsL := [(.int (1 : Int32))]) (rest := []) (c_counted_1 l Z a0 hw b74 y1_80 k1_80 (0 : Int32) (o_t 2 p1) (0 : Int32) T108.heap f112 o108_1 (o_nt _ _)) 0 (by decide) (by decide) (by decide) (by decide) (by rw [hml]; rfl) (lenOf o_pd2 rfl) rfl (Nat.le_of_eq rfl) (hb hby at_169) (n := 172) rfl ?_
                intro v123 T123 L123 X123 q123
                obtain ⟨rfl, e123, rfl⟩ := q123
                have N124 := Fr.app N122 (Fr.nil n0)
                show Goes p e below s _ _ _ (T123.setTop (mkF m 172 #[.val (.int p0), .val (.int p1), .val (.long p2), .second, .val (.long p3), .second, .val (.long p4), .second, .val (.int (1 : Int32)), .val (.int (2 : Int32)), .val (.int (o_t 1 p1)), .val (.int (o_t 2 p1)), .val (.long (o_s p1 p4)), .second, .val (.long (o_sq (o_s p1 p4))), .second, .val (.ref b74), .unset, .unset] [(.int (o_t 2 p1))]))
                refine o_iload X123 hx (hb hby at_172) (v := (o_t 2 p1)) rfl (n := 174) rfl ?_
                refine o_icmpN X123 hx (hb hby at_174) (XT.ii_ne_f rfl) (n := 177) rfl ?_
                refine o_aload X123 hx (hb hby at_177) (v := (.ref b74)) rfl rfl (n := 179) rfl ?_
                refine o_iload X123 hx (hb hby at_179) (v := (1 : Int32)) rfl (n := 181) rfl ?_
                refine o_callV X123 hx hZ hown (hw _ (List.mem_of_getElem? (i := 40) rfl)) (hw _ (List.mem_of_getElem? (i := 41) rfl)) (hw _ (List.mem_of_getElem? (i := 43) rfl)) (hw _ (List.mem_of_getElem? (i := 42) rfl)) (hw _ (List.mem_of_getElem? (i := 4) rfl)) (hw _ (List.mem_of_getElem? (i := 44) rfl)) (by decide) e123 f110 (argsL := [(.int (1 : Int32))]) (rest := []) (c_cores_1 l Z a0 hw b74 y2_80 k2_80 (0 : Int64) p2 (0 : Int64) T108.heap f113 o108_2) 0 (by decide) (by decide) (by decide) (by decide) (by rw [hml]; rfl) (lenOf o_pd3 rfl) rfl (Nat.le_of_eq rfl) (hb hby at_181) (n := 184) rfl ?_
                intro v125 T125 L125 X125 q125
                obtain ⟨rfl, e125, rfl⟩ := q125
                have N126 := Fr.app N124 (Fr.nil n0)
                show Goes p e below s _ _ _ (T125.setTop (mkF m 184 #[.val (.int p0), .val (.int p1), .val (.long p2), .second, .val (.long p3), .second, .val (.long p4), .second, .val (.int (1 : Int32)), .val (.int (2 : Int32)), .val (.int (o_t 1 p1)), .val (.int (o_t 2 p1)), .val (.long (o_s p1 p4)), .second, .val (.long (o_sq (o_s p1 p4))), .second, .val (.ref b74), .unset, .unset] [(.long p2)]))
                refine o_lloadN X125 hx (hb hby at_184) (v := p2) rfl (n := 185) rfl ?_
                refine o_lcmp X125 hx (hb hby at_185) (n := 186) rfl ?_
                refine o_ifN X125 hx (hb hby at_186) (XT.ll_ne_f rfl) (n := 189) rfl ?_
                refine o_aload X125 hx (hb hby at_189) (v := (.ref b74)) rfl rfl (n := 191) rfl ?_
                refine o_iload X125 hx (hb hby at_191) (v := (1 : Int32)) rfl (n := 193) rfl ?_
                refine o_callV X125 hx hZ hown (hw _ (List.mem_of_getElem? (i := 45) rfl)) (hw _ (List.mem_of_getElem? (i := 46) rfl)) (hw _ (List.mem_of_getElem? (i := 48) rfl)) (hw _ (List.mem_of_getElem? (i := 47) rfl)) (hw _ (List.mem_of_getElem? (i := 4) rfl)) (hw _ (List.mem_of_getElem? (i := 49) rfl)) (by decide) e125 f110 (argsL := [(.int (1 : Int32))]) (rest := []) (c_gpus_1 l Z a0 hw b74 y3_80 k3_80 (0 : Int64) p3 (0 : Int64) T108.heap f114 o108_3) 0 (by decide) (by decide) (by decide) (by decide) (by rw [hml]; rfl) (lenOf o_pd3 rfl) rfl (Nat.le_of_eq rfl) (hb hby at_193) (n := 196) rfl ?_
                intro v127 T127 L127 X127 q127
                obtain ⟨rfl, e127, rfl⟩ := q127
                have N128 := Fr.app N126 (Fr.nil n0)
                show Goes p e below s _ _ _ (T127.setTop (mkF m 196 #[.val (.int p0), .val (.int p1), .val (.long p2), .second, .val (.long p3), .second, .val (.long p4), .second, .val (.int (1 : Int32)), .val (.int (2 : Int32)), .val (.int (o_t 1 p1)), .val (.int (o_t 2 p1)), .val (.long (o_s p1 p4)), .second, .val (.long (o_sq (o_s p1 p4))), .second, .val (.ref b74), .unset, .unset] [(.long p3)]))
                refine o_lload X127 hx (hb hby at_196) (v := p3) rfl (n := 198) rfl ?_
                refine o_lcmp X127 hx (hb hby at_198) (n := 199) rfl ?_
                refine o_ifN X127 hx (hb hby at_199) (XT.ll_ne_f rfl) (n := 202) rfl ?_
                refine o_aload X127 hx (hb hby at_202) (v := (.ref b74)) rfl rfl (n := 204) rfl ?_
                refine o_iload X127 hx (hb hby at_204) (v := (1 : Int32)) rfl (n := 206) rfl ?_
                refine o_callV X127 hx hZ hown (hw _ (List.mem_of_getElem? (i := 50) rfl)) (hw _ (List.mem_of_getElem? (i := 51) rfl)) (hw _ (List.mem_of_getElem? (i := 53) rfl)) (hw _ (List.mem_of_getElem? (i := 52) rfl)) (hw _ (List.mem_of_getElem? (i := 4) rfl)) (hw _ (List.mem_of_getElem? (i := 54) rfl)) (by decide) e127 f110 (argsL := [(.int (1 : Int32))]) (rest := []) (c_seq_1 l Z a0 hw b74 y4_80 k4_80 (0 : Int64) (o_sq (o_s p1 p4)) (0 : Int64) T108.heap f115 o108_4) 0 (by decide) (by decide) (by decide) (by decide) (by rw [hml]; rfl) (lenOf o_pd3 rfl) rfl (Nat.le_of_eq rfl) (hb hby at_206) (n := 209) rfl ?_
                intro v129 T129 L129 X129 q129
                obtain ⟨rfl, e129, rfl⟩ := q129
                have N130 := Fr.app N128 (Fr.nil n0)
                show Goes p e below s _ _ _ (T129.setTop (mkF m 209 #[.val (.int p0), .val (.int p1), .val (.long p2), .second, .val (.long p3), .second, .val (.long p4), .second, .val (.int (1 : Int32)), .val (.int (2 : Int32)), .val (.int (o_t 1 p1)), .val (.int (o_t 2 p1)), .val (.long (o_s p1 p4)), .second, .val (.long (o_sq (o_s p1 p4))), .second, .val (.ref b74), .unset, .unset] [(.long (o_sq (o_s p1 p4)))]))
                refine o_lload X129 hx (hb hby at_209) (v := (o_sq (o_s p1 p4))) rfl (n := 211) rfl ?_
                refine o_lcmp X129 hx (hb hby at_211) (n := 212) rfl ?_
                refine o_ifN X129 hx (hb hby at_212) (XT.ll_ne_f rfl) (n := 215) rfl ?_
                refine o_iconst X129 hx (hb hby at_215) (v := (1 : Int32)) rfl (n := 216) rfl ?_
                refine o_goto X129 hx (hb hby at_216) (by decide) (n := 220) (by decide) ?_
                refine o_istore X129 hx (hb hby at_220) (Ls' := #[.val (.int p0), .val (.int p1), .val (.long p2), .second, .val (.long p3), .second, .val (.long p4), .second, .val (.int (1 : Int32)), .val (.int (2 : Int32)), .val (.int (o_t 1 p1)), .val (.int (o_t 2 p1)), .val (.long (o_s p1 p4)), .second, .val (.long (o_sq (o_s p1 p4))), .second, .val (.ref b74), .val (.int (1 : Int32)), .unset]) rfl (n := 222) rfl ?_
                refine o_aload X129 hx (hb hby at_222) (v := (.ref b74)) rfl rfl (n := 224) rfl ?_
                refine o_iload X129 hx (hb hby at_224) (v := (2 : Int32)) rfl (n := 226) rfl ?_
                refine o_callV X129 hx hZ hown (hw _ (List.mem_of_getElem? (i := 30) rfl)) (hw _ (List.mem_of_getElem? (i := 31) rfl)) (hw _ (List.mem_of_getElem? (i := 33) rfl)) (hw _ (List.mem_of_getElem? (i := 32) rfl)) (hw _ (List.mem_of_getElem? (i := 4) rfl)) (hw _ (List.mem_of_getElem? (i := 34) rfl)) (by decide) e129 f110 (argsL := [(.int (2 : Int32))]) (rest := []) (c_held_2 l Z a0 hw b74 y0_80 k0_80 (0 : Int32) (o_t 1 p1) (0 : Int32) T108.heap f111 o108_0 (by decide)) 0 (by decide) (by decide) (by decide) (by decide) (by rw [hml]; rfl) (lenOf o_pd2 rfl) rfl (Nat.le_of_eq rfl) (hb hby at_226) (n := 229) rfl ?_
                intro v131 T131 L131 X131 q131
                obtain ⟨rfl, e131, rfl⟩ := q131
                have N132 := Fr.app N130 (Fr.nil n0)
                show Goes p e below s _ _ _ (T131.setTop (mkF m 229 #[.val (.int p0), .val (.int p1), .val (.long p2), .second, .val (.long p3), .second, .val (.long p4), .second, .val (.int (1 : Int32)), .val (.int (2 : Int32)), .val (.int (o_t 1 p1)), .val (.int (o_t 2 p1)), .val (.long (o_s p1 p4)), .second, .val (.long (o_sq (o_s p1 p4))), .second, .val (.ref b74), .val (.int (1 : Int32)), .unset] [(.int (0 : Int32))]))
                refine o_ifN X131 hx (hb hby at_229) (XT.i0_ne_f (by decide)) (n := 232) rfl ?_
                refine o_aload X131 hx (hb hby at_232) (v := (.ref b74)) rfl rfl (n := 234) rfl ?_
                refine o_iload X131 hx (hb hby at_234) (v := (2 : Int32)) rfl (n := 236) rfl ?_
                refine o_callV X131 hx hZ hown (hw _ (List.mem_of_getElem? (i := 40) rfl)) (hw _ (List.mem_of_getElem? (i := 41) rfl)) (hw _ (List.mem_of_getElem? (i := 43) rfl)) (hw _ (List.mem_of_getElem? (i := 42) rfl)) (hw _ (List.mem_of_getElem? (i := 4) rfl)) (hw _ (List.mem_of_getElem? (i := 44) rfl)) (by decide) e131 f110 (argsL := [(.int (2 : Int32))]) (rest := []) (c_cores_2 l Z a0 hw b74 y2_80 k2_80 (0 : Int64) p2 (0 : Int64) T108.heap f113 o108_2) 0 (by decide) (by decide) (by decide) (by decide) (by rw [hml]; rfl) (lenOf o_pd3 rfl) rfl (Nat.le_of_eq rfl) (hb hby at_236) (n := 239) rfl ?_
                intro v133 T133 L133 X133 q133
                obtain ⟨rfl, e133, rfl⟩ := q133
                have N134 := Fr.app N132 (Fr.nil n0)
                show Goes p e below s _ _ _ (T133.setTop (mkF m 239 #[.val (.int p0), .val (.int p1), .val (.long p2), .second, .val (.long p3), .second, .val (.long p4), .second, .val (.int (1 : Int32)), .val (.int (2 : Int32)), .val (.int (o_t 1 p1)), .val (.int (o_t 2 p1)), .val (.long (o_s p1 p4)), .second, .val (.long (o_sq (o_s p1 p4))), .second, .val (.ref b74), .val (.int (1 : Int32)), .unset] [(.long (0 : Int64))]))
                refine o_lconst X133 hx (hb hby at_239) (v := (0 : Int64)) rfl (n := 240) rfl ?_
                refine o_lcmp X133 hx (hb hby at_240) (n := 241) rfl ?_
                refine o_ifN X133 hx (hb hby at_241) (XT.ll_ne_f (by decide)) (n := 244) rfl ?_
                refine o_aload X133 hx (hb hby at_244) (v := (.ref b74)) rfl rfl (n := 246) rfl ?_
                refine o_iload X133 hx (hb hby at_246) (v := (2 : Int32)) rfl (n := 248) rfl ?_
                refine o_callV X133 hx hZ hown (hw _ (List.mem_of_getElem? (i := 45) rfl)) (hw _ (List.mem_of_getElem? (i := 46) rfl)) (hw _ (List.mem_of_getElem? (i := 48) rfl)) (hw _ (List.mem_of_getElem? (i := 47) rfl)) (hw _ (List.mem_of_getElem? (i := 4) rfl)) (hw _ (List.mem_of_getElem? (i := 49) rfl)) (by decide) e133 f110 (argsL := [(.int (2 : Int32))]) (rest := []) (c_gpus_2 l Z a0 hw b74 y3_80 k3_80 (0 : Int64) p3 (0 : Int64) T108.heap f114 o108_3) 0 (by decide) (by decide) (by decide) (by decide) (by rw [hml]; rfl) (lenOf o_pd3 rfl) rfl (Nat.le_of_eq rfl) (hb hby at_248) (n := 251) rfl ?_
                intro v135 T135 L135 X135 q135
                obtain ⟨rfl, e135, rfl⟩ := q135
                have N136 := Fr.app N134 (Fr.nil n0)
                show Goes p e below s _ _ _ (T135.setTop (mkF m 251 #[.val (.int p0), .val (.int p1), .val (.long p2), .second, .val (.long p3), .second, .val (.long p4), .second, .val (.int (1 : Int32)), .val (.int (2 : Int32)), .val (.int (o_t 1 p1)), .val (.int (o_t 2 p1)), .val (.long (o_s p1 p4)), .second, .val (.long (o_sq (o_s p1 p4))), .second, .val (.ref b74), .val (.int (1 : Int32)), .unset] [(.long (0 : Int64))]))
                refine o_lconst X135 hx (hb hby at_251) (v := (0 : Int64)) rfl (n := 252) rfl ?_
                refine o_lcmp X135 hx (hb hby at_252) (n := 253) rfl ?_
                refine o_ifN X135 hx (hb hby at_253) (XT.ll_ne_f (by decide)) (n := 256) rfl ?_
                refine o_aload X135 hx (hb hby at_256) (v := (.ref b74)) rfl rfl (n := 258) rfl ?_
                refine o_iload X135 hx (hb hby at_258) (v := (2 : Int32)) rfl (n := 260) rfl ?_
                refine o_callV X135 hx hZ hown (hw _ (List.mem_of_getElem? (i := 50) rfl)) (hw _ (List.mem_of_getElem? (i := 51) rfl)) (hw _ (List.mem_of_getElem? (i := 53) rfl)) (hw _ (List.mem_of_getElem? (i := 52) rfl)) (hw _ (List.mem_of_getElem? (i := 4) rfl)) (hw _ (List.mem_of_getElem? (i := 54) rfl)) (by decide) e135 f110 (argsL := [(.int (2 : Int32))]) (rest := []) (c_seq_2 l Z a0 hw b74 y4_80 k4_80 (0 : Int64) (o_sq (o_s p1 p4)) (0 : Int64) T108.heap f115 o108_4) 0 (by decide) (by decide) (by decide) (by decide) (by rw [hml]; rfl) (lenOf o_pd3 rfl) rfl (Nat.le_of_eq rfl) (hb hby at_260) (n := 263) rfl ?_
                intro v137 T137 L137 X137 q137
                obtain ⟨rfl, e137, rfl⟩ := q137
                have N138 := Fr.app N136 (Fr.nil n0)
                show Goes p e below s _ _ _ (T137.setTop (mkF m 263 #[.val (.int p0), .val (.int p1), .val (.long p2), .second, .val (.long p3), .second, .val (.long p4), .second, .val (.int (1 : Int32)), .val (.int (2 : Int32)), .val (.int (o_t 1 p1)), .val (.int (o_t 2 p1)), .val (.long (o_s p1 p4)), .second, .val (.long (o_sq (o_s p1 p4))), .second, .val (.ref b74), .val (.int (1 : Int32)), .unset] [(.long (0 : Int64))]))
                refine o_lconst X137 hx (hb hby at_263) (v := (0 : Int64)) rfl (n := 264) rfl ?_
                refine o_lcmp X137 hx (hb hby at_264) (n := 265) rfl ?_
                refine o_ifN X137 hx (hb hby at_265) (XT.ll_ne_f (by decide)) (n := 268) rfl ?_
                refine o_iconst X137 hx (hb hby at_268) (v := (1 : Int32)) rfl (n := 269) rfl ?_
                refine o_goto X137 hx (hb hby at_269) (by decide) (n := 273) (by decide) ?_
                refine o_istore X137 hx (hb hby at_273) (Ls' := #[.val (.int p0), .val (.int p1), .val (.long p2), .second, .val (.long p3), .second, .val (.long p4), .second, .val (.int (1 : Int32)), .val (.int (2 : Int32)), .val (.int (o_t 1 p1)), .val (.int (o_t 2 p1)), .val (.long (o_s p1 p4)), .second, .val (.long (o_sq (o_s p1 p4))), .second, .val (.ref b74), .val (.int (1 : Int32)), .val (.int (1 : Int32))]) rfl (n := 275) rfl ?_
                refine o_iload X137 hx (hb hby at_275) (v := (1 : Int32)) rfl (n := 277) rfl ?_
                refine o_ifN X137 hx (hb hby at_277) (XT.i0_eq_f (by decide)) (n := 280) rfl ?_
                refine o_iload X137 hx (hb hby at_280) (v := (1 : Int32)) rfl (n := 282) rfl ?_
                refine o_ifN X137 hx (hb hby at_282) (XT.i0_eq_f (by decide)) (n := 285) rfl ?_
                refine o_iconst X137 hx (hb hby at_285) (v := (1 : Int32)) rfl (n := 286) rfl ?_
                refine o_goto X137 hx (hb hby at_286) (by decide) (n := 290) (by decide) ?_
                exact o_nreturn X137 hx hret hlk (t := .boolean) (by simp) (hb hby at_290) (by decide) (by decide) e137 ⟨rfl, N138⟩
              refine o_iload X80 hx (hb hby at_107) (v := (o_t 2 p1)) rfl (n := 109) rfl ?_
              by_cases hc109 : (o_t 2 p1) = (0 : Int32)
              · refine o_ifN X80 hx (hb hby at_109) (XT.i0_ne_f hc109) (n := 112) rfl ?_
                refine o_iconst X80 hx (hb hby at_112) (v := (1 : Int32)) rfl (n := 113) rfl ?_
                refine o_goto X80 hx (hb hby at_113) (by decide) (n := 117) (by decide) ?_
                exact kj94 _ (by simp [o_not, hc109])
              · refine o_ifY X80 hx (hb hby at_109) (XT.i0_ne_t hc109) (by decide) (n := 116) (by decide) ?_
                refine o_iconst X80 hx (hb hby at_116) (v := (0 : Int32)) rfl (n := 117) rfl ?_
                exact kj94 _ (by simp [o_not, hc109])
            refine o_iload X80 hx (hb hby at_97) (v := (o_t 1 p1)) rfl (n := 99) rfl ?_
            by_cases hc99 : (o_t 1 p1) = (0 : Int32)
            · refine o_ifN X80 hx (hb hby at_99) (XT.i0_ne_f hc99) (n := 102) rfl ?_
              refine o_iconst X80 hx (hb hby at_102) (v := (1 : Int32)) rfl (n := 103) rfl ?_
              refine o_goto X80 hx (hb hby at_103) (by decide) (n := 107) (by decide) ?_
              exact kj93 _ (by simp [o_not, hc99])
            · refine o_ifY X80 hx (hb hby at_99) (XT.i0_ne_t hc99) (by decide) (n := 106) (by decide) ?_
              refine o_iconst X80 hx (hb hby at_106) (v := (0 : Int32)) rfl (n := 107) rfl ?_
              exact kj93 _ (by simp [o_not, hc99])
          refine o_lload X0 hx (hb hby at_66) (v := (o_s p1 p4)) rfl (n := 68) rfl ?_
          refine o_ldc2_w X0 hx hZ (v := (-9223372036854775808 : Int64)) hown (hw _ (List.mem_of_getElem? (i := 1) rfl)) (hb hby at_68) (n := 71) rfl ?_
          refine o_lcmp X0 hx (hb hby at_71) (n := 72) rfl ?_
          by_cases hc72 : (o_s p1 p4) = (-9223372036854775808 : Int64)
          · refine o_ifN X0 hx (hb hby at_72) (XT.ll_ne_f hc72) (n := 75) rfl ?_
            refine o_lconst X0 hx (hb hby at_75) (v := (0 : Int64)) rfl (n := 76) rfl ?_
            refine o_goto X0 hx (hb hby at_76) (by decide) (n := 81) (by decide) ?_
            exact kj73 _ (by simp [o_sq, hc72])
          · refine o_ifY X0 hx (hb hby at_72) (XT.ll_ne_t hc72) (by decide) (n := 79) (by decide) ?_
            refine o_lload X0 hx (hb hby at_79) (v := (o_s p1 p4)) rfl (n := 81) rfl ?_
            exact kj73 _ (by simp [o_sq, hc72])
        refine o_iloadN X0 hx (hb hby at_50) (v := p1) rfl (n := 51) rfl ?_
        refine o_iconst X0 hx (hb hby at_51) (v := (4 : Int32)) rfl (n := 52) rfl ?_
        refine o_iand X0 hx (hb hby at_52) (v := (p1 &&& (4 : Int32))) rfl (n := 53) rfl ?_
        by_cases hc53 : (p1 &&& (4 : Int32)) = (0 : Int32)
        · refine o_ifY X0 hx (hb hby at_53) (XT.i0_eq_t hc53) (by decide) (n := 62) (by decide) ?_
          refine o_lload X0 hx (hb hby at_62) (v := p4) rfl (n := 64) rfl ?_
          exact kj72 _ (by simp [o_s, hc53])
        · refine o_ifN X0 hx (hb hby at_53) (XT.i0_eq_f hc53) (n := 56) rfl ?_
          refine o_ldc2_w X0 hx hZ (v := (-9223372036854775808 : Int64)) hown (hw _ (List.mem_of_getElem? (i := 1) rfl)) (hb hby at_56) (n := 59) rfl ?_
          refine o_goto X0 hx (hb hby at_59) (by decide) (n := 64) (by decide) ?_
          exact kj72 _ (by simp [o_s, hc53])
      refine o_iloadN X0 hx (hb hby at_37) (v := p1) rfl (n := 38) rfl ?_
      refine o_iconst X0 hx (hb hby at_38) (v := (2 : Int32)) rfl (n := 39) rfl ?_
      refine o_iand X0 hx (hb hby at_39) (v := (p1 &&& (2 : Int32))) rfl (n := 40) rfl ?_
      by_cases hc40 : (p1 &&& (2 : Int32)) = (0 : Int32)
      · refine o_ifY X0 hx (hb hby at_40) (XT.i0_eq_t hc40) (by decide) (n := 47) (by decide) ?_
        refine o_iconst X0 hx (hb hby at_47) (v := (0 : Int32)) rfl (n := 48) rfl ?_
        exact kj71 _ (by simp [o_t, hc40])
      · refine o_ifN X0 hx (hb hby at_40) (XT.i0_eq_f hc40) (n := 43) rfl ?_
        refine o_iconst X0 hx (hb hby at_43) (v := (1 : Int32)) rfl (n := 44) rfl ?_
        refine o_goto X0 hx (hb hby at_44) (by decide) (n := 48) (by decide) ?_
        exact kj71 _ (by simp [o_t, hc40])
    refine o_iloadN X0 hx (hb hby at_24) (v := p1) rfl (n := 25) rfl ?_
    refine o_iconst X0 hx (hb hby at_25) (v := (1 : Int32)) rfl (n := 26) rfl ?_
    refine o_iand X0 hx (hb hby at_26) (v := (p1 &&& (1 : Int32))) rfl (n := 27) rfl ?_
    by_cases hc27 : (p1 &&& (1 : Int32)) = (0 : Int32)
    · refine o_ifY X0 hx (hb hby at_27) (XT.i0_eq_t hc27) (by decide) (n := 34) (by decide) ?_
      refine o_iconst X0 hx (hb hby at_34) (v := (0 : Int32)) rfl (n := 35) rfl ?_
      exact kj70 _ (by simp [o_t, hc27])
    · refine o_ifN X0 hx (hb hby at_27) (XT.i0_eq_f hc27) (n := 30) rfl ?_
      refine o_iconst X0 hx (hb hby at_30) (v := (1 : Int32)) rfl (n := 31) rfl ?_
      refine o_goto X0 hx (hb hby at_31) (by decide) (n := 35) (by decide) ?_
      exact kj70 _ (by simp [o_t, hc27])
  · refine o_iloadN X0 hx (hb hby at_0) (v := p0) rfl (n := 1) rfl ?_
    refine o_ldc X0 hx hZ (v := (2147483647 : Int32)) hown (hw _ (List.mem_of_getElem? (i := 0) rfl)) (hb hby at_1) (n := 3) rfl ?_
    refine o_iand X0 hx (hb hby at_3) (v := (p0 &&& (2147483647 : Int32))) rfl (n := 4) rfl ?_
    refine o_iconst X0 hx (hb hby at_4) (v := (3 : Int32)) rfl (n := 5) rfl ?_
    refine o_irem X0 hx (hb hby at_5) (by decide) (v := (2 : Int32)) q (n := 6) rfl ?_
    refine o_istore X0 hx (hb hby at_6) (Ls' := #[.val (.int p0), .val (.int p1), .val (.long p2), .second, .val (.long p3), .second, .val (.long p4), .second, .val (.int (2 : Int32)), .unset, .unset, .unset, .unset, .unset, .unset, .unset, .unset, .unset, .unset]) rfl (n := 8) rfl ?_
    refine o_iload X0 hx (hb hby at_8) (v := (2 : Int32)) rfl (n := 10) rfl ?_
    refine o_iconst X0 hx (hb hby at_10) (v := (2 : Int32)) rfl (n := 11) rfl ?_
    refine o_icmpN X0 hx (hb hby at_11) (XT.ii_ne_f (by decide)) (n := 14) rfl ?_
    refine o_iconst X0 hx (hb hby at_14) (v := (0 : Int32)) rfl (n := 15) rfl ?_
    refine o_goto X0 hx (hb hby at_15) (by decide) (n := 22) (by decide) ?_
    refine o_istore X0 hx (hb hby at_22) (Ls' := #[.val (.int p0), .val (.int p1), .val (.long p2), .second, .val (.long p3), .second, .val (.long p4), .second, .val (.int (2 : Int32)), .val (.int (0 : Int32)), .unset, .unset, .unset, .unset, .unset, .unset, .unset, .unset, .unset]) rfl (n := 24) rfl ?_
    have kj139 : ∀ b_ : Int32, b_ = (o_t 1 p1) → Goes p e below s (fun v h L => v = some (.int 1) ∧ Fr n0 L) (room_1).cells (room_1).slots (T0.setTop (mkF m 35 #[.val (.int p0), .val (.int p1), .val (.long p2), .second, .val (.long p3), .second, .val (.long p4), .second, .val (.int (2 : Int32)), .val (.int (0 : Int32)), .unset, .unset, .unset, .unset, .unset, .unset, .unset, .unset, .unset] [(.int b_)])) := by
      intro b_ hb_
      subst hb_
      refine o_istore X0 hx (hb hby at_35) (Ls' := #[.val (.int p0), .val (.int p1), .val (.long p2), .second, .val (.long p3), .second, .val (.long p4), .second, .val (.int (2 : Int32)), .val (.int (0 : Int32)), .val (.int (o_t 1 p1)), .unset, .unset, .unset, .unset, .unset, .unset, .unset, .unset]) rfl (n := 37) rfl ?_
      have kj140 : ∀ b_ : Int32, b_ = (o_t 2 p1) → Goes p e below s (fun v h L => v = some (.int 1) ∧ Fr n0 L) (room_1).cells (room_1).slots (T0.setTop (mkF m 48 #[.val (.int p0), .val (.int p1), .val (.long p2), .second, .val (.long p3), .second, .val (.long p4), .second, .val (.int (2 : Int32)), .val (.int (0 : Int32)), .val (.int (o_t 1 p1)), .unset, .unset, .unset, .unset, .unset, .unset, .unset, .unset] [(.int b_)])) := by
        intro b_ hb_
        subst hb_
        refine o_istore X0 hx (hb hby at_48) (Ls' := #[.val (.int p0), .val (.int p1), .val (.long p2), .second, .val (.long p3), .second, .val (.long p4), .second, .val (.int (2 : Int32)), .val (.int (0 : Int32)), .val (.int (o_t 1 p1)), .val (.int (o_t 2 p1)), .unset, .unset, .unset, .unset, .unset, .unset, .unset]) rfl (n := 50) rfl ?_
        have kj141 : ∀ b_ : Int64, b_ = (o_s p1 p4) → Goes p e below s (fun v h L => v = some (.int 1) ∧ Fr n0 L) (room_1).cells (room_1).slots (T0.setTop (mkF m 64 #[.val (.int p0), .val (.int p1), .val (.long p2), .second, .val (.long p3), .second, .val (.long p4), .second, .val (.int (2 : Int32)), .val (.int (0 : Int32)), .val (.int (o_t 1 p1)), .val (.int (o_t 2 p1)), .unset, .unset, .unset, .unset, .unset, .unset, .unset] [(.long b_)])) := by
          intro b_ hb_
          subst hb_
          refine o_lstore X0 hx (hb hby at_64) (Ls' := #[.val (.int p0), .val (.int p1), .val (.long p2), .second, .val (.long p3), .second, .val (.long p4), .second, .val (.int (2 : Int32)), .val (.int (0 : Int32)), .val (.int (o_t 1 p1)), .val (.int (o_t 2 p1)), .val (.long (o_s p1 p4)), .second, .unset, .unset, .unset, .unset, .unset]) rfl (n := 66) rfl ?_
          have kj142 : ∀ b_ : Int64, b_ = (o_sq (o_s p1 p4)) → Goes p e below s (fun v h L => v = some (.int 1) ∧ Fr n0 L) (room_1).cells (room_1).slots (T0.setTop (mkF m 81 #[.val (.int p0), .val (.int p1), .val (.long p2), .second, .val (.long p3), .second, .val (.long p4), .second, .val (.int (2 : Int32)), .val (.int (0 : Int32)), .val (.int (o_t 1 p1)), .val (.int (o_t 2 p1)), .val (.long (o_s p1 p4)), .second, .unset, .unset, .unset, .unset, .unset] [(.long b_)])) := by
            intro b_ hb_
            subst hb_
            refine o_lstore X0 hx (hb hby at_81) (Ls' := #[.val (.int p0), .val (.int p1), .val (.long p2), .second, .val (.long p3), .second, .val (.long p4), .second, .val (.int (2 : Int32)), .val (.int (0 : Int32)), .val (.int (o_t 1 p1)), .val (.int (o_t 2 p1)), .val (.long (o_s p1 p4)), .second, .val (.long (o_sq (o_s p1 p4))), .second, .unset, .unset, .unset]) rfl (n := 83) rfl ?_
            refine o_new X0 hx hZ hown (hw _ (List.mem_of_getElem? (i := 2) rfl)) (hw _ (List.mem_of_getElem? (i := 3) rfl)) (hw _ (List.mem_of_getElem? (i := 4) rfl)) e0 (hb hby at_83) (by decide) (by decide) (n := 86) rfl ?_
            intro T143 h143 b143 X143 e143 g143 E143 A143 D143
            have gg143 : n0 ≤ b143 := Nat.le_trans Z0 (Nat.le_of_eq g143.symm)
            have zz143 : n0 ≤ h143.size := Nat.le_trans Z0 E143.1
            have f144 : Fld Z h143 b143 "com/example/overbook_guard/overbookguard/gate/Counters" "held" "[Z" .null := D143 (Or.inr (hw _ (List.mem_of_getElem? (i := 13) rfl))) (ty := (.array .boolean)) (by decide)
            have f145 : Fld Z h143 b143 "com/example/overbook_guard/overbookguard/gate/Counters" "counted" "[Z" .null := D143 (Or.inr (hw _ (List.mem_of_getElem? (i := 15) rfl))) (ty := (.array .boolean)) (by decide)
            have f146 : Fld Z h143 b143 "com/example/overbook_guard/overbookguard/gate/Counters" "cores" "[J" .null := D143 (Or.inr (hw _ (List.mem_of_getElem? (i := 18) rfl))) (ty := (.array .long)) (by decide)
            have f147 : Fld Z h143 b143 "com/example/overbook_guard/overbookguard/gate/Counters" "gpus" "[J" .null := D143 (Or.inr (hw _ (List.mem_of_getElem? (i := 20) rfl))) (ty := (.array .long)) (by decide)
            have f148 : Fld Z h143 b143 "com/example/overbook_guard/overbookguard/gate/Counters" "seq" "[J" .null := D143 (Or.inr (hw _ (List.mem_of_getElem? (i := 22) rfl))) (ty := (.array .long)) (by decide)
            refine o_dup X143 hx (hb hby at_86) rfl (n := 87) rfl ?_
            refine o_iconst X143 hx (hb hby at_87) (v := (3 : Int32)) rfl (n := 88) rfl ?_
            refine o_callN X143 hx hZ rfl hown (hw _ (List.mem_of_getElem? (i := 5) rfl)) (hw _ (List.mem_of_getElem? (i := 6) rfl)) (hw _ (List.mem_of_getElem? (i := 4) rfl)) (hw _ (List.mem_of_getElem? (i := 7) rfl)) (by decide) e143 (a := b143) (argsL := [(.int (3 : Int32))]) (rest := [(.ref b143)]) (c_init l Z a0 hw b143 h143 n0 zz143 gg143 A143 f144 f145 f146 f147 f148) 1 (by decide) (by decide) (by decide) (by decide) (by rw [hml]; rfl) (lenOf o_pd0 rfl) rfl (Nat.le_of_eq rfl) (hb hby at_88) (n := 91) rfl ?_
            intro v149 T149 L149 X149 q149
            obtain ⟨y0_149, k0_149, y1_149, k1_149, y2_149, k2_149, y3_149, k3_149, y4_149, k4_149, rfl, Nq149, K149, sq149_y0, sq149_y1, sq149_y2, sq149_y3, sq149_y4, nq149_y0_y1, nq149_y0_y2, nq149_y0_y3, nq149_y0_y4, nq149_y1_y2, nq149_y1_y3, nq149_y1_y4, nq149_y2_y3, nq149_y2_y4, nq149_y3_y4, o149_0, o149_1, o149_2, o149_3, o149_4, o149_5, o149_6, o149_7, o149_8, o149_9, o149_10⟩ := q149
            have N150 := Fr.app N0 Nq149
            have ne151 : b143 ≠ y0_149 := Nat.ne_of_lt (Nat.lt_of_lt_of_le A143.lt sq149_y0)
            have gg149_y0 : n0 ≤ y0_149 := Nat.le_trans zz143 sq149_y0
            have ne152 : b143 ≠ y1_149 := Nat.ne_of_lt (Nat.lt_of_lt_of_le A143.lt sq149_y1)
            have gg149_y1 : n0 ≤ y1_149 := Nat.le_trans zz143 sq149_y1
            have ne153 : b143 ≠ y2_149 := Nat.ne_of_lt (Nat.lt_of_lt_of_le A143.lt sq149_y2)
            have gg149_y2 : n0 ≤ y2_149 := Nat.le_trans zz143 sq149_y2
            have ne154 : b143 ≠ y3_149 := Nat.ne_of_lt (Nat.lt_of_lt_of_le A143.lt sq149_y3)
            have gg149_y3 : n0 ≤ y3_149 := Nat.le_trans zz143 sq149_y3
            have ne155 : b143 ≠ y4_149 := Nat.ne_of_lt (Nat.lt_of_lt_of_le A143.lt sq149_y4)
            have gg149_y4 : n0 ≤ y4_149 := Nat.le_trans zz143 sq149_y4
            have f156 := A143.keep K149
            have zz149 : n0 ≤ T149.heap.size := Nat.le_trans zz143 K149.1
            show Goes p e below s _ _ _ (T149.setTop (mkF m 91 #[.val (.int p0), .val (.int p1), .val (.long p2), .second, .val (.long p3), .second, .val (.long p4), .second, .val (.int (2 : Int32)), .val (.int (0 : Int32)), .val (.int (o_t 1 p1)), .val (.int (o_t 2 p1)), .val (.long (o_s p1 p4)), .second, .val (.long (o_sq (o_s p1 p4))), .second, .unset, .unset, .unset] [(.ref b143)]))
            refine o_astore X149 hx (hb hby at_91) rfl (Ls' := #[.val (.int p0), .val (.int p1), .val (.long p2), .second, .val (.long p3), .second, .val (.long p4), .second, .val (.int (2 : Int32)), .val (.int (0 : Int32)), .val (.int (o_t 1 p1)), .val (.int (o_t 2 p1)), .val (.long (o_s p1 p4)), .second, .val (.long (o_sq (o_s p1 p4))), .second, .val (.ref b143), .unset, .unset]) rfl (n := 93) rfl ?_
            refine o_aload X149 hx (hb hby at_93) (v := (.ref b143)) rfl rfl (n := 95) rfl ?_
            refine o_iload X149 hx (hb hby at_95) (v := (2 : Int32)) rfl (n := 97) rfl ?_
            have kj162 : ∀ b_ : Int32, b_ = (o_not (o_t 1 p1)) → Goes p e below s (fun v h L => v = some (.int 1) ∧ Fr n0 L) (room_1).cells (room_1).slots (T149.setTop (mkF m 107 #[.val (.int p0), .val (.int p1), .val (.long p2), .second, .val (.long p3), .second, .val (.long p4), .second, .val (.int (2 : Int32)), .val (.int (0 : Int32)), .val (.int (o_t 1 p1)), .val (.int (o_t 2 p1)), .val (.long (o_s p1 p4)), .second, .val (.long (o_sq (o_s p1 p4))), .second, .val (.ref b143), .unset, .unset] [(.int b_), (.int (2 : Int32)), (.ref b143)])) := by
              intro b_ hb_
              subst hb_
              have kj163 : ∀ b_ : Int32, b_ = (o_not (o_t 2 p1)) → Goes p e below s (fun v h L => v = some (.int 1) ∧ Fr n0 L) (room_1).cells (room_1).slots (T149.setTop (mkF m 117 #[.val (.int p0), .val (.int p1), .val (.long p2), .second, .val (.long p3), .second, .val (.long p4), .second, .val (.int (2 : Int32)), .val (.int (0 : Int32)), .val (.int (o_t 1 p1)), .val (.int (o_t 2 p1)), .val (.long (o_s p1 p4)), .second, .val (.long (o_sq (o_s p1 p4))), .second, .val (.ref b143), .unset, .unset] [(.int b_), (.int (o_not (o_t 1 p1))), (.int (2 : Int32)), (.ref b143)])) := by
                intro b_ hb_
                subst hb_
                refine o_lloadN X149 hx (hb hby at_117) (v := p2) rfl (n := 118) rfl ?_
                refine o_ldc2_w X149 hx hZ (v := (-1 : Int64)) hown (hw _ (List.mem_of_getElem? (i := 23) rfl)) (hb hby at_118) (n := 121) rfl ?_
                refine o_lxor X149 hx (hb hby at_121) (v := (p2 ^^^ (-1 : Int64))) rfl (n := 122) rfl ?_
                refine o_lload X149 hx (hb hby at_122) (v := p3) rfl (n := 124) rfl ?_
                refine o_ldc2_w X149 hx hZ (v := (-1 : Int64)) hown (hw _ (List.mem_of_getElem? (i := 23) rfl)) (hb hby at_124) (n := 127) rfl ?_
                refine o_lxor X149 hx (hb hby at_127) (v := (p3 ^^^ (-1 : Int64))) rfl (n := 128) rfl ?_
                refine o_lload X149 hx (hb hby at_128) (v := (o_s p1 p4)) rfl (n := 130) rfl ?_
                refine o_ldc2_w X149 hx hZ (v := (-1 : Int64)) hown (hw _ (List.mem_of_getElem? (i := 23) rfl)) (hb hby at_130) (n := 133) rfl ?_
                refine o_lxor X149 hx (hb hby at_133) (v := ((o_s p1 p4) ^^^ (-1 : Int64))) rfl (n := 134) rfl ?_
                refine o_callV X149 hx hZ hown (hw _ (List.mem_of_getElem? (i := 24) rfl)) (hw _ (List.mem_of_getElem? (i := 25) rfl)) (hw _ (List.mem_of_getElem? (i := 27) rfl)) (hw _ (List.mem_of_getElem? (i := 26) rfl)) (hw _ (List.mem_of_getElem? (i := 4) rfl)) (hw _ (List.mem_of_getElem? (i := 28) rfl)) (by decide) (rfl : T149.heap = T149.heap) o149_0 (argsL := [(.int (2 : Int32)), (.int (o_not (o_t 1 p1))), (.int (o_not (o_t 2 p1))), (.long (p2 ^^^ (-1 : Int64))), (.long (p3 ^^^ (-1 : Int64))), (.long ((o_s p1 p4) ^^^ (-1 : Int64)))]) (rest := []) (c_set_2 l Z a0 hw b143 y0_149 y1_149 y2_149 y3_149 y4_149 k0_149 k1_149 k2_149 k3_149 k4_149 (o_not (o_t 1 p1)) (o_not (o_t 2 p1)) (p2 ^^^ (-1 : Int64)) (p3 ^^^ (-1 : Int64)) ((o_s p1 p4) ^^^ (-1 : Int64)) (0 : Int32) (0 : Int32) (0 : Int32) (0 : Int32) (0 : Int32) (0 : Int32) (0 : Int64) (0 : Int64) (0 : Int64) (0 : Int64) (0 : Int64) (0 : Int64) (0 : Int64) (0 : Int64) (0 : Int64) T149.heap n0 zz149 gg149_y0 gg149_y1 gg149_y2 gg149_y3 gg149_y4 o149_1 o149_2 o149_3 o149_4 o149_5 o149_6 o149_7 o149_8 o149_9 o149_10 ne151 ne152 ne153 ne154 ne155 nq149_y0_y1 nq149_y0_y2 nq149_y0_y3 nq149_y0_y4 nq149_y1_y2 nq149_y1_y3 nq149_y1_y4 nq149_y2_y3 nq149_y2_y4 nq149_y3_y4 (o_nn _) (o_nn _)) 0 (by decide) (by decide) (by decide) (by decide) (by rw [hml]; rfl) (lenOf o_pd1 rfl) rfl (Nat.le_of_eq rfl) (hb hby at_134) (n := 137) rfl ?_
                intro v164 T164 L164 X164 q164
                obtain ⟨rfl, Nq164, K164, o164_0, o164_1, o164_2, o164_3, o164_4⟩ := q164
                have N165 := Fr.app N150 Nq164
                have f166 := o149_0.keep K164
                have f167 := o149_1.keep K164 (ninS ne151 (ninS ne152 (ninS ne153 (ninS ne154 (ninS ne155 nin0)))))
                have f168 := o149_2.keep K164 (ninS ne151 (ninS ne152 (ninS ne153 (ninS ne154 (ninS ne155 nin0)))))
                have f169 := o149_3.keep K164 (ninS ne151 (ninS ne152 (ninS ne153 (ninS ne154 (ninS ne155 nin0)))))
                have f170 := o149_4.keep K164 (ninS ne151 (ninS ne152 (ninS ne153 (ninS ne154 (ninS ne155 nin0)))))
                have f171 := o149_5.keep K164 (ninS ne151 (ninS ne152 (ninS ne153 (ninS ne154 (ninS ne155 nin0)))))
                have zz164 : n0 ≤ T164.heap.size := Nat.le_trans zz149 K164.1
                show Goes p e below s _ _ _ (T164.setTop (mkF m 137 #[.val (.int p0), .val (.int p1), .val (.long p2), .second, .val (.long p3), .second, .val (.long p4), .second, .val (.int (2 : Int32)), .val (.int (0 : Int32)), .val (.int (o_t 1 p1)), .val (.int (o_t 2 p1)), .val (.long (o_s p1 p4)), .second, .val (.long (o_sq (o_s p1 p4))), .second, .val (.ref b143), .unset, .unset] []))
                refine o_aload X164 hx (hb hby at_137) (v := (.ref b143)) rfl rfl (n := 139) rfl ?_
                refine o_iload X164 hx (hb hby at_139) (v := (2 : Int32)) rfl (n := 141) rfl ?_
                refine o_iload X164 hx (hb hby at_141) (v := (o_t 1 p1)) rfl (n := 143) rfl ?_
                refine o_iload X164 hx (hb hby at_143) (v := (o_t 2 p1)) rfl (n := 145) rfl ?_
                refine o_lloadN X164 hx (hb hby at_145) (v := p2) rfl (n := 146) rfl ?_
                refine o_lload X164 hx (hb hby at_146) (v := p3) rfl (n := 148) rfl ?_
                refine o_lload X164 hx (hb hby at_148) (v := (o_s p1 p4)) rfl (n := 150) rfl ?_
                refine o_callV X164 hx hZ hown (hw _ (List.mem_of_getElem? (i := 24) rfl)) (hw _ (List.mem_of_getElem? (i := 25) rfl)) (hw _ (List.mem_of_getElem? (i := 27) rfl)) (hw _ (List.mem_of_getElem? (i := 26) rfl)) (hw _ (List.mem_of_getElem? (i := 4) rfl)) (hw _ (List.mem_of_getElem? (i := 28) rfl)) (by decide) (rfl : T164.heap = T164.heap) f166 (argsL := [(.int (2 : Int32)), (.int (o_t 1 p1)), (.int (o_t 2 p1)), (.long p2), (.long p3), (.long (o_s p1 p4))]) (rest := []) (c_set_2 l Z a0 hw b143 y0_149 y1_149 y2_149 y3_149 y4_149 k0_149 k1_149 k2_149 k3_149 k4_149 (o_t 1 p1) (o_t 2 p1) p2 p3 (o_s p1 p4) (0 : Int32) (0 : Int32) (o_not (o_t 1 p1)) (0 : Int32) (0 : Int32) (o_not (o_t 2 p1)) (0 : Int64) (0 : Int64) (p2 ^^^ (-1 : Int64)) (0 : Int64) (0 : Int64) (p3 ^^^ (-1 : Int64)) (0 : Int64) (0 : Int64) (o_sq ((o_s p1 p4) ^^^ (-1 : Int64))) T164.heap n0 zz164 gg149_y0 gg149_y1 gg149_y2 gg149_y3 gg149_y4 f167 f168 f169 f170 f171 o164_0 o164_1 o164_2 o164_3 o164_4 ne151 ne152 ne153 ne154 ne155 nq149_y0_y1 nq149_y0_y2 nq149_y0_y3 nq149_y0_y4 nq149_y1_y2 nq149_y1_y3 nq149_y1_y4 nq149_y2_y3 nq149_y2_y4 nq149_y3_y4 (o_nt _ _) (o_nt _ _)) 0 (by decide) (by decide) (by decide) (by decide) (by rw [hml]; rfl) (lenOf o_pd1 rfl) rfl (Nat.le_of_eq rfl) (hb hby at_150) (n := 153) rfl ?_
                intro v177 T177 L177 X177 q177
                obtain ⟨rfl, Nq177, K177, o177_0, o177_1, o177_2, o177_3, o177_4⟩ := q177
                have N178 := Fr.app N165 Nq177
                have f179 := f166.keep K177
                have f180 := f167.keep K177 (ninS ne151 (ninS ne152 (ninS ne153 (ninS ne154 (ninS ne155 nin0)))))
                have f181 := f168.keep K177 (ninS ne151 (ninS ne152 (ninS ne153 (ninS ne154 (ninS ne155 nin0)))))
                have f182 := f169.keep K177 (ninS ne151 (ninS ne152 (ninS ne153 (ninS ne154 (ninS ne155 nin0)))))
                have f183 := f170.keep K177 (ninS ne151 (ninS ne152 (ninS ne153 (ninS ne154 (ninS ne155 nin0)))))
                have f184 := f171.keep K177 (ninS ne151 (ninS ne152 (ninS ne153 (ninS ne154 (ninS ne155 nin0)))))
                have zz177 : n0 ≤ T177.heap.size := Nat.le_trans zz164 K177.1
                show Goes p e below s _ _ _ (T177.setTop (mkF m 153 #[.val (.int p0), .val (.int p1), .val (.long p2), .second, .val (.long p3), .second, .val (.long p4), .second, .val (.int (2 : Int32)), .val (.int (0 : Int32)), .val (.int (o_t 1 p1)), .val (.int (o_t 2 p1)), .val (.long (o_s p1 p4)), .second, .val (.long (o_sq (o_s p1 p4))), .second, .val (.ref b143), .unset, .unset] []))
                refine o_aload X177 hx (hb hby at_153) (v := (.ref b143)) rfl rfl (n := 155) rfl ?_
                refine o_iload X177 hx (hb hby at_155) (v := (2 : Int32)) rfl (n := 157) rfl ?_
                refine o_callV X177 hx hZ hown (hw _ (List.mem_of_getElem? (i := 30) rfl)) (hw _ (List.mem_of_getElem? (i := 31) rfl)) (hw _ (List.mem_of_getElem? (i := 33) rfl)) (hw _ (List.mem_of_getElem? (i := 32) rfl)) (hw _ (List.mem_of_getElem? (i := 4) rfl)) (hw _ (List.mem_of_getElem? (i := 34) rfl)) (by decide) (rfl : T177.heap = T177.heap) f179 (argsL := [(.int (2 : Int32))]) (rest := []) (c_held_2 l Z a0 hw b143 y0_149 k0_149 (0 : Int32) (0 : Int32) (o_t 1 p1) T177.heap f180 o177_0 (o_nt _ _)) 0 (by decide) (by decide) (by decide) (by decide) (by rw [hml]; rfl) (lenOf o_pd2 rfl) rfl (Nat.le_of_eq rfl) (hb hby at_157) (n := 160) rfl ?_
                intro v190 T190 L190 X190 q190
                obtain ⟨rfl, e190, rfl⟩ := q190
                have N191 := Fr.app N178 (Fr.nil n0)
                show Goes p e below s _ _ _ (T190.setTop (mkF m 160 #[.val (.int p0), .val (.int p1), .val (.long p2), .second, .val (.long p3), .second, .val (.long p4), .second, .val (.int (2 : Int32)), .val (.int (0 : Int32)), .val (.int (o_t 1 p1)), .val (.int (o_t 2 p1)), .val (.long (o_s p1 p4)), .second, .val (.long (o_sq (o_s p1 p4))), .second, .val (.ref b143), .unset, .unset] [(.int (o_t 1 p1))]))
                refine o_iload X190 hx (hb hby at_160) (v := (o_t 1 p1)) rfl (n := 162) rfl ?_
                refine o_icmpN X190 hx (hb hby at_162) (XT.ii_ne_f rfl) (n := 165) rfl ?_
                refine o_aload X190 hx (hb hby at_165) (v := (.ref b143)) rfl rfl (n := 167) rfl ?_
                refine o_iload X190 hx (hb hby at_167) (v := (2 : Int32)) rfl (n := 169) rfl ?_
                refine o_callV X190 hx hZ hown (hw _ (List.mem_of_getElem? (i := 35) rfl)) (hw _ (List.mem_of_getElem? (i := 36) rfl)) (hw _ (List.mem_of_getElem? (i := 38) rfl)) (hw _ (List.mem_of_getElem? (i := 37) rfl)) (hw _ (List.mem_of_getElem? (i := 4) rfl)) (hw _ (List.mem_of_getElem? (i := 39) rfl)) (by decide) e190 f179 (argsL := [(.int (2 : Int32))]) (rest := []) (c_counted_2 l Z a0 hw b143 y1_149 k1_149 (0 : Int32) (0 : Int32) (o_t 2 p1) T177.heap f181 o177_1 (o_nt _ _)) 0 (by decide) (by decide) (by decide) (by decide) (by rw [hml]; rfl) (lenOf o_pd2 rfl) rfl (Nat.le_of_eq rfl) (hb hby at_169) (n := 172) rfl ?_
                intro v192 T192 L192 X192 q192
                obtain ⟨rfl, e192, rfl⟩ := q192
                have N193 := Fr.app N191 (Fr.nil n0)
                show Goes p e below s _ _ _ (T192.setTop (mkF m 172 #[.val (.int p0), .val (.int p1), .val (.long p2), .second, .val (.long p3), .second, .val (.long p4), .second, .val (.int (2 : Int32)), .val (.int (0 : Int32)), .val (.int (o_t 1 p1)), .val (.int (o_t 2 p1)), .val (.long (o_s p1 p4)), .second, .val (.long (o_sq (o_s p1 p4))), .second, .val (.ref b143), .unset, .unset] [(.int (o_t 2 p1))]))
                refine o_iload X192 hx (hb hby at_172) (v := (o_t 2 p1)) rfl (n := 174) rfl ?_
                refine o_icmpN X192 hx (hb hby at_174) (XT.ii_ne_f rfl) (n := 177) rfl ?_
                refine o_aload X192 hx (hb hby at_177) (v := (.ref b143)) rfl rfl (n := 179) rfl ?_
                refine o_iload X192 hx (hb hby at_179) (v := (2 : Int32)) rfl (n := 181) rfl ?_
                refine o_callV X192 hx hZ hown (hw _ (List.mem_of_getElem? (i := 40) rfl)) (hw _ (List.mem_of_getElem? (i := 41) rfl)) (hw _ (List.mem_of_getElem? (i := 43) rfl)) (hw _ (List.mem_of_getElem? (i := 42) rfl)) (hw _ (List.mem_of_getElem? (i := 4) rfl)) (hw _ (List.mem_of_getElem? (i := 44) rfl)) (by decide) e192 f179 (argsL := [(.int (2 : Int32))]) (rest := []) (c_cores_2 l Z a0 hw b143 y2_149 k2_149 (0 : Int64) (0 : Int64) p2 T177.heap f182 o177_2) 0 (by decide) (by decide) (by decide) (by decide) (by rw [hml]; rfl) (lenOf o_pd3 rfl) rfl (Nat.le_of_eq rfl) (hb hby at_181) (n := 184) rfl ?_
                intro v194 T194 L194 X194 q194
                obtain ⟨rfl, e194, rfl⟩ := q194
                have N195 := Fr.app N193 (Fr.nil n0)
                show Goes p e below s _ _ _ (T194.setTop (mkF m 184 #[.val (.int p0), .val (.int p1), .val (.long p2), .second, .val (.long p3), .second, .val (.long p4), .second, .val (.int (2 : Int32)), .val (.int (0 : Int32)), .val (.int (o_t 1 p1)), .val (.int (o_t 2 p1)), .val (.long (o_s p1 p4)), .second, .val (.long (o_sq (o_s p1 p4))), .second, .val (.ref b143), .unset, .unset] [(.long p2)]))
                refine o_lloadN X194 hx (hb hby at_184) (v := p2) rfl (n := 185) rfl ?_
                refine o_lcmp X194 hx (hb hby at_185) (n := 186) rfl ?_
                refine o_ifN X194 hx (hb hby at_186) (XT.ll_ne_f rfl) (n := 189) rfl ?_
                refine o_aload X194 hx (hb hby at_189) (v := (.ref b143)) rfl rfl (n := 191) rfl ?_
                refine o_iload X194 hx (hb hby at_191) (v := (2 : Int32)) rfl (n := 193) rfl ?_
                refine o_callV X194 hx hZ hown (hw _ (List.mem_of_getElem? (i := 45) rfl)) (hw _ (List.mem_of_getElem? (i := 46) rfl)) (hw _ (List.mem_of_getElem? (i := 48) rfl)) (hw _ (List.mem_of_getElem? (i := 47) rfl)) (hw _ (List.mem_of_getElem? (i := 4) rfl)) (hw _ (List.mem_of_getElem? (i := 49) rfl)) (by decide) e194 f179 (argsL := [(.int (2 : Int32))]) (rest := []) (c_gpus_2 l Z a0 hw b143 y3_149 k3_149 (0 : Int64) (0 : Int64) p3 T177.heap f183 o177_3) 0 (by decide) (by decide) (by decide) (by decide) (by rw [hml]; rfl) (lenOf o_pd3 rfl) rfl (Nat.le_of_eq rfl) (hb hby at_193) (n := 196) rfl ?_
                intro v196 T196 L196 X196 q196
                obtain ⟨rfl, e196, rfl⟩ := q196
                have N197 := Fr.app N195 (Fr.nil n0)
                show Goes p e below s _ _ _ (T196.setTop (mkF m 196 #[.val (.int p0), .val (.int p1), .val (.long p2), .second, .val (.long p3), .second, .val (.long p4), .second, .val (.int (2 : Int32)), .val (.int (0 : Int32)), .val (.int (o_t 1 p1)), .val (.int (o_t 2 p1)), .val (.long (o_s p1 p4)), .second, .val (.long (o_sq (o_s p1 p4))), .second, .val (.ref b143), .unset, .unset] [(.long p3)]))
                refine o_lload X196 hx (hb hby at_196) (v := p3) rfl (n := 198) rfl ?_
                refine o_lcmp X196 hx (hb hby at_198) (n := 199) rfl ?_
                refine o_ifN X196 hx (hb hby at_199) (XT.ll_ne_f rfl) (n := 202) rfl ?_
                refine o_aload X196 hx (hb hby at_202) (v := (.ref b143)) rfl rfl (n := 204) rfl ?_
                refine o_iload X196 hx (hb hby at_204) (v := (2 : Int32)) rfl (n := 206) rfl ?_
                refine o_callV X196 hx hZ hown (hw _ (List.mem_of_getElem? (i := 50) rfl)) (hw _ (List.mem_of_getElem? (i := 51) rfl)) (hw _ (List.mem_of_getElem? (i := 53) rfl)) (hw _ (List.mem_of_getElem? (i := 52) rfl)) (hw _ (List.mem_of_getElem? (i := 4) rfl)) (hw _ (List.mem_of_getElem? (i := 54) rfl)) (by decide) e196 f179 (argsL := [(.int (2 : Int32))]) (rest := []) (c_seq_2 l Z a0 hw b143 y4_149 k4_149 (0 : Int64) (0 : Int64) (o_sq (o_s p1 p4)) T177.heap f184 o177_4) 0 (by decide) (by decide) (by decide) (by decide) (by rw [hml]; rfl) (lenOf o_pd3 rfl) rfl (Nat.le_of_eq rfl) (hb hby at_206) (n := 209) rfl ?_
                intro v198 T198 L198 X198 q198
                obtain ⟨rfl, e198, rfl⟩ := q198
                have N199 := Fr.app N197 (Fr.nil n0)
                show Goes p e below s _ _ _ (T198.setTop (mkF m 209 #[.val (.int p0), .val (.int p1), .val (.long p2), .second, .val (.long p3), .second, .val (.long p4), .second, .val (.int (2 : Int32)), .val (.int (0 : Int32)), .val (.int (o_t 1 p1)), .val (.int (o_t 2 p1)), .val (.long (o_s p1 p4)), .second, .val (.long (o_sq (o_s p1 p4))), .second, .val (.ref b143), .unset, .unset] [(.long (o_sq (o_s p1 p4)))]))
                refine o_lload X198 hx (hb hby at_209) (v := (o_sq (o_s p1 p4))) rfl (n := 211) rfl ?_
                refine o_lcmp X198 hx (hb hby at_211) (n := 212) rfl ?_
                refine o_ifN X198 hx (hb hby at_212) (XT.ll_ne_f rfl) (n := 215) rfl ?_
                refine o_iconst X198 hx (hb hby at_215) (v := (1 : Int32)) rfl (n := 216) rfl ?_
                refine o_goto X198 hx (hb hby at_216) (by decide) (n := 220) (by decide) ?_
                refine o_istore X198 hx (hb hby at_220) (Ls' := #[.val (.int p0), .val (.int p1), .val (.long p2), .second, .val (.long p3), .second, .val (.long p4), .second, .val (.int (2 : Int32)), .val (.int (0 : Int32)), .val (.int (o_t 1 p1)), .val (.int (o_t 2 p1)), .val (.long (o_s p1 p4)), .second, .val (.long (o_sq (o_s p1 p4))), .second, .val (.ref b143), .val (.int (1 : Int32)), .unset]) rfl (n := 222) rfl ?_
                refine o_aload X198 hx (hb hby at_222) (v := (.ref b143)) rfl rfl (n := 224) rfl ?_
                refine o_iload X198 hx (hb hby at_224) (v := (0 : Int32)) rfl (n := 226) rfl ?_
                refine o_callV X198 hx hZ hown (hw _ (List.mem_of_getElem? (i := 30) rfl)) (hw _ (List.mem_of_getElem? (i := 31) rfl)) (hw _ (List.mem_of_getElem? (i := 33) rfl)) (hw _ (List.mem_of_getElem? (i := 32) rfl)) (hw _ (List.mem_of_getElem? (i := 4) rfl)) (hw _ (List.mem_of_getElem? (i := 34) rfl)) (by decide) e198 f179 (argsL := [(.int (0 : Int32))]) (rest := []) (c_held_0 l Z a0 hw b143 y0_149 k0_149 (0 : Int32) (0 : Int32) (o_t 1 p1) T177.heap f180 o177_0 (by decide)) 0 (by decide) (by decide) (by decide) (by decide) (by rw [hml]; rfl) (lenOf o_pd2 rfl) rfl (Nat.le_of_eq rfl) (hb hby at_226) (n := 229) rfl ?_
                intro v200 T200 L200 X200 q200
                obtain ⟨rfl, e200, rfl⟩ := q200
                have N201 := Fr.app N199 (Fr.nil n0)
                show Goes p e below s _ _ _ (T200.setTop (mkF m 229 #[.val (.int p0), .val (.int p1), .val (.long p2), .second, .val (.long p3), .second, .val (.long p4), .second, .val (.int (2 : Int32)), .val (.int (0 : Int32)), .val (.int (o_t 1 p1)), .val (.int (o_t 2 p1)), .val (.long (o_s p1 p4)), .second, .val (.long (o_sq (o_s p1 p4))), .second, .val (.ref b143), .val (.int (1 : Int32)), .unset] [(.int (0 : Int32))]))
                refine o_ifN X200 hx (hb hby at_229) (XT.i0_ne_f (by decide)) (n := 232) rfl ?_
                refine o_aload X200 hx (hb hby at_232) (v := (.ref b143)) rfl rfl (n := 234) rfl ?_
                refine o_iload X200 hx (hb hby at_234) (v := (0 : Int32)) rfl (n := 236) rfl ?_
                refine o_callV X200 hx hZ hown (hw _ (List.mem_of_getElem? (i := 40) rfl)) (hw _ (List.mem_of_getElem? (i := 41) rfl)) (hw _ (List.mem_of_getElem? (i := 43) rfl)) (hw _ (List.mem_of_getElem? (i := 42) rfl)) (hw _ (List.mem_of_getElem? (i := 4) rfl)) (hw _ (List.mem_of_getElem? (i := 44) rfl)) (by decide) e200 f179 (argsL := [(.int (0 : Int32))]) (rest := []) (c_cores_0 l Z a0 hw b143 y2_149 k2_149 (0 : Int64) (0 : Int64) p2 T177.heap f182 o177_2) 0 (by decide) (by decide) (by decide) (by decide) (by rw [hml]; rfl) (lenOf o_pd3 rfl) rfl (Nat.le_of_eq rfl) (hb hby at_236) (n := 239) rfl ?_
                intro v202 T202 L202 X202 q202
                obtain ⟨rfl, e202, rfl⟩ := q202
                have N203 := Fr.app N201 (Fr.nil n0)
                show Goes p e below s _ _ _ (T202.setTop (mkF m 239 #[.val (.int p0), .val (.int p1), .val (.long p2), .second, .val (.long p3), .second, .val (.long p4), .second, .val (.int (2 : Int32)), .val (.int (0 : Int32)), .val (.int (o_t 1 p1)), .val (.int (o_t 2 p1)), .val (.long (o_s p1 p4)), .second, .val (.long (o_sq (o_s p1 p4))), .second, .val (.ref b143), .val (.int (1 : Int32)), .unset] [(.long (0 : Int64))]))
                refine o_lconst X202 hx (hb hby at_239) (v := (0 : Int64)) rfl (n := 240) rfl ?_
                refine o_lcmp X202 hx (hb hby at_240) (n := 241) rfl ?_
                refine o_ifN X202 hx (hb hby at_241) (XT.ll_ne_f (by decide)) (n := 244) rfl ?_
                refine o_aload X202 hx (hb hby at_244) (v := (.ref b143)) rfl rfl (n := 246) rfl ?_
                refine o_iload X202 hx (hb hby at_246) (v := (0 : Int32)) rfl (n := 248) rfl ?_
                refine o_callV X202 hx hZ hown (hw _ (List.mem_of_getElem? (i := 45) rfl)) (hw _ (List.mem_of_getElem? (i := 46) rfl)) (hw _ (List.mem_of_getElem? (i := 48) rfl)) (hw _ (List.mem_of_getElem? (i := 47) rfl)) (hw _ (List.mem_of_getElem? (i := 4) rfl)) (hw _ (List.mem_of_getElem? (i := 49) rfl)) (by decide) e202 f179 (argsL := [(.int (0 : Int32))]) (rest := []) (c_gpus_0 l Z a0 hw b143 y3_149 k3_149 (0 : Int64) (0 : Int64) p3 T177.heap f183 o177_3) 0 (by decide) (by decide) (by decide) (by decide) (by rw [hml]; rfl) (lenOf o_pd3 rfl) rfl (Nat.le_of_eq rfl) (hb hby at_248) (n := 251) rfl ?_
                intro v204 T204 L204 X204 q204
                obtain ⟨rfl, e204, rfl⟩ := q204
                have N205 := Fr.app N203 (Fr.nil n0)
                show Goes p e below s _ _ _ (T204.setTop (mkF m 251 #[.val (.int p0), .val (.int p1), .val (.long p2), .second, .val (.long p3), .second, .val (.long p4), .second, .val (.int (2 : Int32)), .val (.int (0 : Int32)), .val (.int (o_t 1 p1)), .val (.int (o_t 2 p1)), .val (.long (o_s p1 p4)), .second, .val (.long (o_sq (o_s p1 p4))), .second, .val (.ref b143), .val (.int (1 : Int32)), .unset] [(.long (0 : Int64))]))
                refine o_lconst X204 hx (hb hby at_251) (v := (0 : Int64)) rfl (n := 252) rfl ?_
                refine o_lcmp X204 hx (hb hby at_252) (n := 253) rfl ?_
                refine o_ifN X204 hx (hb hby at_253) (XT.ll_ne_f (by decide)) (n := 256) rfl ?_
                refine o_aload X204 hx (hb hby at_256) (v := (.ref b143)) rfl rfl (n := 258) rfl ?_
                refine o_iload X204 hx (hb hby at_258) (v := (0 : Int32)) rfl (n := 260) rfl ?_
                refine o_callV X204 hx hZ hown (hw _ (List.mem_of_getElem? (i := 50) rfl)) (hw _ (List.mem_of_getElem? (i := 51) rfl)) (hw _ (List.mem_of_getElem? (i := 53) rfl)) (hw _ (List.mem_of_getElem? (i := 52) rfl)) (hw _ (List.mem_of_getElem? (i := 4) rfl)) (hw _ (List.mem_of_getElem? (i := 54) rfl)) (by decide) e204 f179 (argsL := [(.int (0 : Int32))]) (rest := []) (c_seq_0 l Z a0 hw b143 y4_149 k4_149 (0 : Int64) (0 : Int64) (o_sq (o_s p1 p4)) T177.heap f184 o177_4) 0 (by decide) (by decide) (by decide) (by decide) (by rw [hml]; rfl) (lenOf o_pd3 rfl) rfl (Nat.le_of_eq rfl) (hb hby at_260) (n := 263) rfl ?_
                intro v206 T206 L206 X206 q206
                obtain ⟨rfl, e206, rfl⟩ := q206
                have N207 := Fr.app N205 (Fr.nil n0)
                show Goes p e below s _ _ _ (T206.setTop (mkF m 263 #[.val (.int p0), .val (.int p1), .val (.long p2), .second, .val (.long p3), .second, .val (.long p4), .second, .val (.int (2 : Int32)), .val (.int (0 : Int32)), .val (.int (o_t 1 p1)), .val (.int (o_t 2 p1)), .val (.long (o_s p1 p4)), .second, .val (.long (o_sq (o_s p1 p4))), .second, .val (.ref b143), .val (.int (1 : Int32)), .unset] [(.long (0 : Int64))]))
                refine o_lconst X206 hx (hb hby at_263) (v := (0 : Int64)) rfl (n := 264) rfl ?_
                refine o_lcmp X206 hx (hb hby at_264) (n := 265) rfl ?_
                refine o_ifN X206 hx (hb hby at_265) (XT.ll_ne_f (by decide)) (n := 268) rfl ?_
                refine o_iconst X206 hx (hb hby at_268) (v := (1 : Int32)) rfl (n := 269) rfl ?_
                refine o_goto X206 hx (hb hby at_269) (by decide) (n := 273) (by decide) ?_
                refine o_istore X206 hx (hb hby at_273) (Ls' := #[.val (.int p0), .val (.int p1), .val (.long p2), .second, .val (.long p3), .second, .val (.long p4), .second, .val (.int (2 : Int32)), .val (.int (0 : Int32)), .val (.int (o_t 1 p1)), .val (.int (o_t 2 p1)), .val (.long (o_s p1 p4)), .second, .val (.long (o_sq (o_s p1 p4))), .second, .val (.ref b143), .val (.int (1 : Int32)), .val (.int (1 : Int32))]) rfl (n := 275) rfl ?_
                refine o_iload X206 hx (hb hby at_275) (v := (1 : Int32)) rfl (n := 277) rfl ?_
                refine o_ifN X206 hx (hb hby at_277) (XT.i0_eq_f (by decide)) (n := 280) rfl ?_
                refine o_iload X206 hx (hb hby at_280) (v := (1 : Int32)) rfl (n := 282) rfl ?_
                refine o_ifN X206 hx (hb hby at_282) (XT.i0_eq_f (by decide)) (n := 285) rfl ?_
                refine o_iconst X206 hx (hb hby at_285) (v := (1 : Int32)) rfl (n := 286) rfl ?_
                refine o_goto X206 hx (hb hby at_286) (by decide) (n := 290) (by decide) ?_
                exact o_nreturn X206 hx hret hlk (t := .boolean) (by simp) (hb hby at_290) (by decide) (by decide) e206 ⟨rfl, N207⟩
              refine o_iload X149 hx (hb hby at_107) (v := (o_t 2 p1)) rfl (n := 109) rfl ?_
              by_cases hc109 : (o_t 2 p1) = (0 : Int32)
              · refine o_ifN X149 hx (hb hby at_109) (XT.i0_ne_f hc109) (n := 112) rfl ?_
                refine o_iconst X149 hx (hb hby at_112) (v := (1 : Int32)) rfl (n := 113) rfl ?_
                refine o_goto X149 hx (hb hby at_113) (by decide) (n := 117) (by decide) ?_
                exact kj163 _ (by simp [o_not, hc109])
              · refine o_ifY X149 hx (hb hby at_109) (XT.i0_ne_t hc109) (by decide) (n := 116) (by decide) ?_
                refine o_iconst X149 hx (hb hby at_116) (v := (0 : Int32)) rfl (n := 117) rfl ?_
                exact kj163 _ (by simp [o_not, hc109])
            refine o_iload X149 hx (hb hby at_97) (v := (o_t 1 p1)) rfl (n := 99) rfl ?_
            by_cases hc99 : (o_t 1 p1) = (0 : Int32)
            · refine o_ifN X149 hx (hb hby at_99) (XT.i0_ne_f hc99) (n := 102) rfl ?_
              refine o_iconst X149 hx (hb hby at_102) (v := (1 : Int32)) rfl (n := 103) rfl ?_
              refine o_goto X149 hx (hb hby at_103) (by decide) (n := 107) (by decide) ?_
              exact kj162 _ (by simp [o_not, hc99])
            · refine o_ifY X149 hx (hb hby at_99) (XT.i0_ne_t hc99) (by decide) (n := 106) (by decide) ?_
              refine o_iconst X149 hx (hb hby at_106) (v := (0 : Int32)) rfl (n := 107) rfl ?_
              exact kj162 _ (by simp [o_not, hc99])
          refine o_lload X0 hx (hb hby at_66) (v := (o_s p1 p4)) rfl (n := 68) rfl ?_
          refine o_ldc2_w X0 hx hZ (v := (-9223372036854775808 : Int64)) hown (hw _ (List.mem_of_getElem? (i := 1) rfl)) (hb hby at_68) (n := 71) rfl ?_
          refine o_lcmp X0 hx (hb hby at_71) (n := 72) rfl ?_
          by_cases hc72 : (o_s p1 p4) = (-9223372036854775808 : Int64)
          · refine o_ifN X0 hx (hb hby at_72) (XT.ll_ne_f hc72) (n := 75) rfl ?_
            refine o_lconst X0 hx (hb hby at_75) (v := (0 : Int64)) rfl (n := 76) rfl ?_
            refine o_goto X0 hx (hb hby at_76) (by decide) (n := 81) (by decide) ?_
            exact kj142 _ (by simp [o_sq, hc72])
          · refine o_ifY X0 hx (hb hby at_72) (XT.ll_ne_t hc72) (by decide) (n := 79) (by decide) ?_
            refine o_lload X0 hx (hb hby at_79) (v := (o_s p1 p4)) rfl (n := 81) rfl ?_
            exact kj142 _ (by simp [o_sq, hc72])
        refine o_iloadN X0 hx (hb hby at_50) (v := p1) rfl (n := 51) rfl ?_
        refine o_iconst X0 hx (hb hby at_51) (v := (4 : Int32)) rfl (n := 52) rfl ?_
        refine o_iand X0 hx (hb hby at_52) (v := (p1 &&& (4 : Int32))) rfl (n := 53) rfl ?_
        by_cases hc53 : (p1 &&& (4 : Int32)) = (0 : Int32)
        · refine o_ifY X0 hx (hb hby at_53) (XT.i0_eq_t hc53) (by decide) (n := 62) (by decide) ?_
          refine o_lload X0 hx (hb hby at_62) (v := p4) rfl (n := 64) rfl ?_
          exact kj141 _ (by simp [o_s, hc53])
        · refine o_ifN X0 hx (hb hby at_53) (XT.i0_eq_f hc53) (n := 56) rfl ?_
          refine o_ldc2_w X0 hx hZ (v := (-9223372036854775808 : Int64)) hown (hw _ (List.mem_of_getElem? (i := 1) rfl)) (hb hby at_56) (n := 59) rfl ?_
          refine o_goto X0 hx (hb hby at_59) (by decide) (n := 64) (by decide) ?_
          exact kj141 _ (by simp [o_s, hc53])
      refine o_iloadN X0 hx (hb hby at_37) (v := p1) rfl (n := 38) rfl ?_
      refine o_iconst X0 hx (hb hby at_38) (v := (2 : Int32)) rfl (n := 39) rfl ?_
      refine o_iand X0 hx (hb hby at_39) (v := (p1 &&& (2 : Int32))) rfl (n := 40) rfl ?_
      by_cases hc40 : (p1 &&& (2 : Int32)) = (0 : Int32)
      · refine o_ifY X0 hx (hb hby at_40) (XT.i0_eq_t hc40) (by decide) (n := 47) (by decide) ?_
        refine o_iconst X0 hx (hb hby at_47) (v := (0 : Int32)) rfl (n := 48) rfl ?_
        exact kj140 _ (by simp [o_t, hc40])
      · refine o_ifN X0 hx (hb hby at_40) (XT.i0_eq_f hc40) (n := 43) rfl ?_
        refine o_iconst X0 hx (hb hby at_43) (v := (1 : Int32)) rfl (n := 44) rfl ?_
        refine o_goto X0 hx (hb hby at_44) (by decide) (n := 48) (by decide) ?_
        exact kj140 _ (by simp [o_t, hc40])
    refine o_iloadN X0 hx (hb hby at_24) (v := p1) rfl (n := 25) rfl ?_
    refine o_iconst X0 hx (hb hby at_25) (v := (1 : Int32)) rfl (n := 26) rfl ?_
    refine o_iand X0 hx (hb hby at_26) (v := (p1 &&& (1 : Int32))) rfl (n := 27) rfl ?_
    by_cases hc27 : (p1 &&& (1 : Int32)) = (0 : Int32)
    · refine o_ifY X0 hx (hb hby at_27) (XT.i0_eq_t hc27) (by decide) (n := 34) (by decide) ?_
      refine o_iconst X0 hx (hb hby at_34) (v := (0 : Int32)) rfl (n := 35) rfl ?_
      exact kj139 _ (by simp [o_t, hc27])
    · refine o_ifN X0 hx (hb hby at_27) (XT.i0_eq_f hc27) (n := 30) rfl ?_
      refine o_iconst X0 hx (hb hby at_30) (v := (1 : Int32)) rfl (n := 31) rfl ?_
      refine o_goto X0 hx (hb hby at_31) (by decide) (n := 35) (by decide) ?_
      exact kj139 _ (by simp [o_t, hc27])
set_option maxRecDepth 65536 in
set_option maxHeartbeats 40000000 in
theorem comes_1 {Post : Tables → Env → Array Value → State → Outcome → State → Prop} (hpost : ∀ tb e args s v u, (limb_1_1.after args s (.returned v) u = true ∧ limb_1_2.after args s (.returned v) u = true ∧ True) → FrameEnd s (.returned v) u (Jvm.fieldLocs frame_1_writes args s ++ Jvm.arrayLocs frame_1_arrays args s ++ Jvm.staticLocs frame_1_statics s) 24 128 → Post tb e args s (.returned v) u) :
    ArmFor flags0 classFile x code maxLocals ret World_1 tables_1 room_1 Calls_1 rest_1 Pre_1 Post := by
  intro l hfl _ _ p e ha hc hk s m args below hf hA hF happ hP
  obtain ⟨hcalls, hrest, hpre⟩ := hP
  obtain ⟨-, -, -, hnamed, -, -, -, hat⟩ := (Spec.applies_iff hf).mp happ
  obtain ⟨hg, hn⟩ := and_e (Cond.before_iff.mp (show (Jvm.Cond.and given_1 narrow_1).before args s = true from hpre))
  obtain ⟨gv1, gv2⟩ := and_e hg
  obtain ⟨gv3, gv4⟩ := and_e gv2
  obtain ⟨gv5, gv6⟩ := and_e gv4
  obtain ⟨gv7, gv8⟩ := and_e gv6
  obtain ⟨gv9, gv10⟩ := and_e gv8
  obtain ⟨w0, w1, w2, w3, w4, rfl⟩ : ∃ w0 w1 w2 w3 w4 : Value, args = #[w0, w1, w2, w3, w4] := by
    have hs : args.size = 5 := by simpa [Cond.value, given_1] using gv1
    obtain ⟨L⟩ := args
    match L, hs with
    | [w0, w1, w2, w3, w4], _ => exact ⟨w0, w1, w2, w3, w4, rfl⟩
  have hw := fun d (hd : d ∈ tables_1) => atoms_spec (ws := Jvm.Cond.code x code maxLocals ret :: tables_1) hat d (List.mem_cons_of_mem _ hd)
  have hfit : Fit s := fun {y c} hc i hi => by
    obtain ⟨ha, rfl⟩ := Array.getElem?_eq_some_iff.mp hc
    have q := List.all_eq_true.mp ((Array.all_eq_true_iff_forall_mem.mp hF) _ (Array.getElem_mem ha)) i (List.mem_range.mpr hi)
    simpa [Array.getElem?_eq_getElem hi] using q
  obtain ⟨i0, ei0⟩ := is_v gv3
  obtain rfl : w0 = (.int i0) := Option.some.inj ei0
  obtain ⟨i1, ei1⟩ := is_v gv5
  obtain rfl : w1 = (.int i1) := Option.some.inj ei1
  obtain ⟨i2, ei2⟩ := isL_v gv7
  obtain rfl : w2 = (.long i2) := Option.some.inj ei2
  obtain ⟨i3, ei3⟩ := isL_v gv9
  obtain rfl : w3 = (.long i3) := Option.some.inj ei3
  obtain ⟨i4, ei4⟩ := isL_v gv10
  obtain rfl : w4 = (.long i4) := Option.some.inj ei4
  obtain ⟨n, o, h1, h2, h3, _, L, rfl, ⟨rfl, N⟩, hq⟩ := o_law l s _ hw i0 i1 i2 i3 i4 s.heap s.heap.size (Nat.le_refl _) p e ha hc hk s m _ below hf ((Spec.applies_iff_loose hf).mp happ).1 ⟨rfl, State.Warmed39.refl s, rfl⟩ trivial
  refine ⟨n, _, h1, h2, h3, hpost _ _ _ _ _ _ ⟨Cond.after_iff.mpr rfl, Cond.after_iff.mpr (eq_i res_at (Term.int_eval (1)) rfl), trivial⟩ ⟨hq.1, hq.2.1, (hq.2.2.sift fun y hy => Or.inr (N y hy)).mono (by decide) (by decide)⟩⟩
theorem main_1_1 : Claimed_1_1 := comes_1 fun _ _ _ _ _ _ h hF => ⟨h.1, hF⟩
theorem main_1_2 : Claimed_1_2 := comes_1 fun _ _ _ _ _ _ h hF => ⟨h.2.1, hF⟩
end Jvm.Pilot.@@N@@
namespace Jvm.Pilot.@@N@@
open Jvm Jvm.ClassFile Sem Op Lib Jvm.Free Jvm.Stand Jvm.Pilot.@@N@@.Jvm.D
/-! MADE BY PROGRAM (witnessworld.py) out of the Statement's table words and the real class files: 13 classes; the members and pool entries that the words name. The judged class is class 1, her method 1. -/
namespace start1
open Jvm.ClassFile
def u (s : String) : CpInfo := .utf8 (stringToUtf16 s)
/-- a pool by its gaps: so many unusable entries, then the entry; so many at the end -/
def gap : Nat → List CpInfo → List CpInfo
  | 0, r => r
  | n + 1, r => .unusable :: gap n r
def poolList (es : List (Nat × CpInfo)) (last : Nat) : List CpInfo := es.foldr (fun e r => gap e.1 (e.2 :: r)) (gap last [])
def pool (es : List (Nat × CpInfo)) (last : Nat) : Array CpInfo := ⟨poolList es last⟩
def fileOf (pool : Array CpInfo) (this : Nat) (attrs : Array Attribute := #[]) (ms : Array MethodInfo := #[]) (fl : Nat := 33) (sup : Nat := 0) (ifs : Array Nat := #[]) (fds : Array FieldInfo := #[]) : ClassFile where
  minorVersion := 0
  majorVersion := 65
  constantPool := pool
  accessFlags := fl
  thisClass := this
  superClass := sup
  interfaces := ifs
  fields := fds
  methods := ms
  attributes := attrs
def plain (name : String) (sup : Option ClassId) : Class where
  name := name
  kind := .ordinary
  loader := none
  accessFlags := 33
  super := sup
  interfaces := #[]
  cf := none
  fields := #[]
  methods := #[]
  instanceTypes := #[]
  staticTypes := #[]
  resolved := #[]
  callSites := []
  init := .initialized
  statics := none
  mirror := none

def pool0 : Array CpInfo := pool [(5, u "<init>"), (0, u "()V"), (1, .class_ 10), (1, u "java/lang/Object")] 113

def k0c0 : Code := { maxStack := 0, maxLocals := 1, code := object_method_1_code, exceptionTable := #[], attributes := #[] }
def k0m0 : Method := { name := "<init>", desc := "()V", sig := { parameters := [], returnType := none }, accessFlags := 1, code := some k0c0 }
/-- java/lang/Object -/
def k0 : Class := { plain "java/lang/Object" none with
  accessFlags := 33
  interfaces := #[]
  cf := some (fileOf pool0 8 #[] #[{ accessFlags := 1, nameIndex := 5, descriptorIndex := 6, attributes := #[] }] 33 0 #[] #[])
  fields := #[]
  methods := #[k0m0]
  instanceTypes := #[]
  staticTypes := #[]
  resolved := Array.replicate 124 none
  statics := none }

def pool1 : Array CpInfo := pool [(2, .class_ 4), (1, u "java/lang/Object"), (0, u "<init>"), (0, u "()V"), (0, .integer 2147483647), (2, .long 9223372036854775808), (1, .class_ 13), (0, u "com/example/overbook_guard/overbookguard/gate/Counters"), (0, .methodref 12 15), (0, .nameAndType 5 16), (0, u "(I)V"), (0, .long 18446744073709551615), (1, .methodref 12 20), (0, .nameAndType 21 22), (0, u "set"), (0, u "(IZZJJJ)V"), (0, .methodref 12 24), (0, .nameAndType 25 26), (0, u "held"), (0, u "(I)Z"), (0, .methodref 12 28), (0, .nameAndType 29 26), (0, u "counted"), (0, .methodref 12 31), (0, .nameAndType 32 33), (0, u "cores"), (0, u "(I)J"), (0, .methodref 12 35), (0, .nameAndType 36 33), (0, u "gpus"), (0, .methodref 12 38), (0, .nameAndType 39 33), (0, u "seq"), (0, .class_ 41), (0, u "com/example/overbook_guard/overbookguard/gate/CountersSetPinLaw"), (2, u "law"), (0, u "(IIJJJ)Z")] 3

def k1m0 : Method := { name := "<init>", desc := "()V", sig := { parameters := [], returnType := none }, accessFlags := 2, code := none }
def k1c1 : Code := { maxStack := 12, maxLocals := 19, code := code, exceptionTable := #[], attributes := #[] }
def k1m1 : Method := { name := "law", desc := "(IIJJJ)Z", sig := { parameters := [.int, .int, .long, .long, .long], returnType := some .boolean }, accessFlags := 9, code := some k1c1 }
/-- com/example/overbook_guard/overbookguard/gate/CountersSetPinLaw -/
def k1 : Class := { plain "com/example/overbook_guard/overbookguard/gate/CountersSetPinLaw" (some 0) with
  accessFlags := 49
  interfaces := #[]
  cf := some (fileOf pool1 40 #[] #[{ accessFlags := 2, nameIndex := 5, descriptorIndex := 6, attributes := #[] }, { accessFlags := 9, nameIndex := 44, descriptorIndex := 45, attributes := #[] }] 49 2 #[] #[])
  fields := #[]
  methods := #[k1m0, k1m1]
  instanceTypes := #[]
  staticTypes := #[]
  resolved := Array.replicate 49 none
  statics := none }

def pool2 : Array CpInfo := pool [(1, .methodref 2 3), (0, .class_ 4), (0, .nameAndType 5 6), (0, u "java/lang/Object"), (0, u "<init>"), (0, u "()V"), (0, .fieldref 8 9), (0, .class_ 10), (0, .nameAndType 11 12), (0, u "com/example/overbook_guard/overbookguard/gate/Counters"), (0, u "held"), (0, u "[Z"), (0, .fieldref 8 14), (0, .nameAndType 15 12), (0, u "counted"), (0, .fieldref 8 17), (0, .nameAndType 18 19), (0, u "cores"), (0, u "[J"), (0, .fieldref 8 21), (0, .nameAndType 22 19), (0, u "gpus"), (0, .fieldref 8 24), (0, .nameAndType 25 19), (0, u "seq"), (2, .long 9223372036854775808), (16, u "(I)V"), (2, u "set"), (0, u "(IZZJJJ)V"), (2, u "(I)Z"), (0, u "(I)J")] 6

def k2c0 : Code := { maxStack := 2, maxLocals := 2, code := prog_1_method_1_code, exceptionTable := #[], attributes := #[] }
def k2m0 : Method := { name := "<init>", desc := "(I)V", sig := { parameters := [.int], returnType := none }, accessFlags := 0, code := some k2c0 }
def k2c1 : Code := { maxStack := 6, maxLocals := 10, code := prog_1_method_2_code, exceptionTable := #[], attributes := #[] }
def k2m1 : Method := { name := "set", desc := "(IZZJJJ)V", sig := { parameters := [.int, .boolean, .boolean, .long, .long, .long], returnType := none }, accessFlags := 0, code := some k2c1 }
def k2c2 : Code := { maxStack := 2, maxLocals := 2, code := prog_1_method_3_code, exceptionTable := #[], attributes := #[] }
def k2m2 : Method := { name := "held", desc := "(I)Z", sig := { parameters := [.int], returnType := some .boolean }, accessFlags := 1, code := some k2c2 }
def k2c3 : Code := { maxStack := 2, maxLocals := 2, code := prog_1_method_4_code, exceptionTable := #[], attributes := #[] }
def k2m3 : Method := { name := "counted", desc := "(I)Z", sig := { parameters := [.int], returnType := some .boolean }, accessFlags := 1, code := some k2c3 }
def k2c4 : Code := { maxStack := 2, maxLocals := 2, code := prog_1_method_5_code, exceptionTable := #[], attributes := #[] }
def k2m4 : Method := { name := "cores", desc := "(I)J", sig := { parameters := [.int], returnType := some .long }, accessFlags := 1, code := some k2c4 }
def k2c5 : Code := { maxStack := 2, maxLocals := 2, code := prog_1_method_6_code, exceptionTable := #[], attributes := #[] }
def k2m5 : Method := { name := "gpus", desc := "(I)J", sig := { parameters := [.int], returnType := some .long }, accessFlags := 1, code := some k2c5 }
def k2c6 : Code := { maxStack := 2, maxLocals := 2, code := prog_1_method_8_code, exceptionTable := #[], attributes := #[] }
def k2m6 : Method := { name := "seq", desc := "(I)J", sig := { parameters := [.int], returnType := some .long }, accessFlags := 1, code := some k2c6 }
/-- com/example/overbook_guard/overbookguard/gate/Counters -/
def k2 : Class := { plain "com/example/overbook_guard/overbookguard/gate/Counters" (some 0) with
  accessFlags := 49
  interfaces := #[]
  cf := some (fileOf pool2 8 #[] #[{ accessFlags := 0, nameIndex := 5, descriptorIndex := 45, attributes := #[] }, { accessFlags := 0, nameIndex := 48, descriptorIndex := 49, attributes := #[] }, { accessFlags := 1, nameIndex := 11, descriptorIndex := 52, attributes := #[] }, { accessFlags := 1, nameIndex := 15, descriptorIndex := 52, attributes := #[] }, { accessFlags := 1, nameIndex := 18, descriptorIndex := 53, attributes := #[] }, { accessFlags := 1, nameIndex := 22, descriptorIndex := 53, attributes := #[] }, { accessFlags := 1, nameIndex := 25, descriptorIndex := 53, attributes := #[] }] 49 2 #[] #[{ accessFlags := 18, nameIndex := 11, descriptorIndex := 12, attributes := #[] }, { accessFlags := 18, nameIndex := 15, descriptorIndex := 12, attributes := #[] }, { accessFlags := 18, nameIndex := 18, descriptorIndex := 19, attributes := #[] }, { accessFlags := 18, nameIndex := 22, descriptorIndex := 19, attributes := #[] }, { accessFlags := 18, nameIndex := 25, descriptorIndex := 19, attributes := #[] }])
  fields := #[{ name := "held", type := (.array .boolean), accessFlags := 18, slot := 0, constantValue := 0 }, { name := "counted", type := (.array .boolean), accessFlags := 18, slot := 1, constantValue := 0 }, { name := "cores", type := (.array .long), accessFlags := 18, slot := 2, constantValue := 0 }, { name := "gpus", type := (.array .long), accessFlags := 18, slot := 3, constantValue := 0 }, { name := "seq", type := (.array .long), accessFlags := 18, slot := 4, constantValue := 0 }]
  methods := #[k2m0, k2m1, k2m2, k2m3, k2m4, k2m5, k2m6]
  instanceTypes := #[(.array .boolean), (.array .boolean), (.array .long), (.array .long), (.array .long)]
  staticTypes := #[]
  resolved := Array.replicate 60 none
  statics := none }

def pool3 : Array CpInfo := pool [(1, u "java/lang/Cloneable"), (0, .class_ 1), (0, u "java/lang/Object"), (0, .class_ 3)] 3

/-- java/lang/Cloneable -/
def k3 : Class := { plain "java/lang/Cloneable" (some 0) with
  accessFlags := 1537
  interfaces := #[]
  cf := some (fileOf pool3 2 #[] #[] 1537 4 #[] #[])
  fields := #[]
  methods := #[]
  instanceTypes := #[]
  staticTypes := #[]
  resolved := Array.replicate 8 none
  statics := none }

def pool4 : Array CpInfo := pool [(1, u "java/io/Serializable"), (0, .class_ 1), (0, u "java/lang/Object"), (0, .class_ 3)] 3

/-- java/io/Serializable -/
def k4 : Class := { plain "java/io/Serializable" (some 0) with
  accessFlags := 1537
  interfaces := #[]
  cf := some (fileOf pool4 2 #[] #[] 1537 4 #[] #[])
  fields := #[]
  methods := #[]
  instanceTypes := #[]
  staticTypes := #[]
  resolved := Array.replicate 8 none
  statics := none }

/-- the primitive boolean -/
def k5 : Class := { plain "boolean" none with kind := .primitive 'Z', accessFlags := 0x411 }
/-- [Z -/
def k6 : Class := { plain "[Z" (some 0) with kind := .array 5 .boolean, interfaces := #[3, 4], accessFlags := 1041 }

/-- the primitive byte -/
def k7 : Class := { plain "byte" none with kind := .primitive 'B', accessFlags := 0x411 }
/-- [B -/
def k8 : Class := { plain "[B" (some 0) with kind := .array 7 .byte, interfaces := #[3, 4], accessFlags := 1041 }

/-- the primitive int -/
def k9 : Class := { plain "int" none with kind := .primitive 'I', accessFlags := 0x411 }
/-- [I -/
def k10 : Class := { plain "[I" (some 0) with kind := .array 9 .int, interfaces := #[3, 4], accessFlags := 1041 }

/-- the primitive long -/
def k11 : Class := { plain "long" none with kind := .primitive 'J', accessFlags := 0x411 }
/-- [J -/
def k12 : Class := { plain "[J" (some 0) with kind := .array 11 .long, interfaces := #[3, 4], accessFlags := 1041 }

def heap : Heap := #[]
def classes : Array Class := #[k0, k1, k2, k3, k4, k5, k6, k7, k8, k9, k10, k11, k12]
def interned : List (Array UInt16 × Addr) := []
def slotsUsed : Nat := 0
def theMethod : MethodId := ⟨1, 1⟩
def args0 : Array Value := #[.int 5, .int 5, .long 5, .long 5, .long 5]
def aboutOver (below : List Frame) : State where
  vm := { classes := classes, interned := interned.toArray }
  heap := heap
  slotsUsed := slotsUsed
  threads := #[{ frames := .invoking theMethod args0 :: below }]
def below0 : List Frame := [.native { method := ⟨0, 0⟩, args := #[] }]
def about1 : State := aboutOver below0
def p0 : Program := .bare "" "" ""
def e0 : Env := launch0.env 0 0 0
theorem w_frames : about1.frames = Frame.invoking theMethod args0 :: below0 := rfl
set_option maxRecDepth 65536 in
theorem w_args : argsFit about1.vm theMethod args0 = true := by decide +kernel
set_option maxRecDepth 65536 in
theorem w_heap : heapFits about1 = true := by decide +kernel
set_option maxRecDepth 65536 in
theorem w_runnable : about1.curStatus? = some .runnable := by decide +kernel
set_option maxRecDepth 65536 in
theorem w_alone : about1.alone = true := by decide +kernel
set_option maxRecDepth 65536 in
theorem w_named : about1.methodNamed? x = some theMethod := by decide +kernel
set_option maxRecDepth 65536 in
theorem w_hears : about1.hears theMethod below0 = true := by decide +kernel
set_option maxRecDepth 65536 in
theorem w_ripe : about1.ripe theMethod args0 below0 = true := by decide +kernel
theorem w_running : about1.status = .running := rfl
set_option maxRecDepth 65536 in
theorem w_room : about1.hasRoom e0.platform room_1 = true :=
  launch0.hasRoom_least _ room_1 (by decide +kernel) (by decide +kernel) (by decide +kernel) (by decide +kernel) (by decide +kernel) (by decide +kernel)
theorem allAtoms_all (ts : List Jvm.Cond) (a : Array Jvm.Value) (st : Jvm.State) : (allAtoms ts).before a st = ts.all (fun c => c.before a st) := by
  induction ts with
  | nil => rfl
  | cons c t ih =>
    show (Jvm.Cond.and c (allAtoms t)).before a st = _
    rw [Jvm.Cond.before_and, ih, List.all_cons]
def words1 : List Jvm.Cond := Jvm.Cond.code x code maxLocals ret :: tables_1
/-- a 'code' word, met by the world's own term for the bytes: nothing is compared byte by byte -/
theorem code_word {y : MethodName} {bytes : ByteArray} {mx : Nat} {rt : Option FieldType} {a : Array Value} {s : State} {m : MethodId} {meth : Method} {c : Code} (h1 : s.methodNamed? y = some m) (h2 : s.vm.method? m = some meth) (h3 : meth.code = some c) (h4 : c.code = bytes)
    (h5 : (c.maxLocals == mx && c.exceptionTable.isEmpty && decide (c.maxStack ≤ mostOperands) && decide (meth.sig.returnType = rt) && !meth.locks && decide (parseMethodDescriptor y.desc = some meth.sig)) = true) : (Jvm.Cond.code y bytes mx rt).before a s = true := by
  simp only [Bool.and_eq_true, beq_iff_eq, Bool.not_eq_true', decide_eq_true_eq] at h5
  obtain ⟨⟨⟨⟨⟨g1, g2⟩, g3⟩, g4⟩, g5⟩, g6⟩ := h5
  simp [Cond.before, Cond.holds, Cond.value, h1, h2, h3, h4, g1, g2, g3, g4, g5, g6]
def isCode : Jvm.Cond → Bool
  | .code _ _ _ _ => true
  | _ => false
theorem all_split {L : List Jvm.Cond} {P : Jvm.Cond → Bool} (h1 : L.all (fun c => isCode c || P c) = true) (h2 : ∀ c ∈ L.filter isCode, P c = true) : L.all P = true := by
  refine List.all_eq_true.mpr fun c hc => ?_
  have h := List.all_eq_true.mp h1 c hc
  rcases Bool.eq_false_or_eq_true (isCode c) with hi | hi
  · exact h2 c (List.mem_filter.mpr ⟨hc, hi⟩)
  · simpa [hi] using h
set_option maxRecDepth 65536 in
theorem w_c0 : (Jvm.Cond.code x code maxLocals ret).before args0 about1 = true := code_word (m := ⟨1, 1⟩) (meth := k1m1) (c := k1c1) (by decide +kernel) rfl rfl rfl (by decide +kernel)
set_option maxRecDepth 65536 in
theorem w_c1 : (Jvm.Cond.code ({ cls := "com/example/overbook_guard/overbookguard/gate/Counters", name := "<init>", desc := "(I)V" } : Jvm.MethodName) prog_1_method_1_code (2 : Nat) (Option.none : Option Jvm.ClassFile.FieldType)).before args0 about1 = true := code_word (m := ⟨2, 0⟩) (meth := k2m0) (c := k2c0) (by decide +kernel) rfl rfl rfl (by decide +kernel)
set_option maxRecDepth 65536 in
theorem w_c2 : (Jvm.Cond.code ({ cls := "java/lang/Object", name := "<init>", desc := "()V" } : Jvm.MethodName) object_method_1_code (1 : Nat) (Option.none : Option Jvm.ClassFile.FieldType)).before args0 about1 = true := code_word (m := ⟨0, 0⟩) (meth := k0m0) (c := k0c0) (by decide +kernel) rfl rfl rfl (by decide +kernel)
set_option maxRecDepth 65536 in
theorem w_c3 : (Jvm.Cond.code ({ cls := "com/example/overbook_guard/overbookguard/gate/Counters", name := "set", desc := "(IZZJJJ)V" } : Jvm.MethodName) prog_1_method_2_code (10 : Nat) (Option.none : Option Jvm.ClassFile.FieldType)).before args0 about1 = true := code_word (m := ⟨2, 1⟩) (meth := k2m1) (c := k2c1) (by decide +kernel) rfl rfl rfl (by decide +kernel)
set_option maxRecDepth 65536 in
theorem w_c4 : (Jvm.Cond.code ({ cls := "com/example/overbook_guard/overbookguard/gate/Counters", name := "held", desc := "(I)Z" } : Jvm.MethodName) prog_1_method_3_code (2 : Nat) (Option.some Jvm.ClassFile.FieldType.boolean)).before args0 about1 = true := code_word (m := ⟨2, 2⟩) (meth := k2m2) (c := k2c2) (by decide +kernel) rfl rfl rfl (by decide +kernel)
set_option maxRecDepth 65536 in
theorem w_c5 : (Jvm.Cond.code ({ cls := "com/example/overbook_guard/overbookguard/gate/Counters", name := "counted", desc := "(I)Z" } : Jvm.MethodName) prog_1_method_4_code (2 : Nat) (Option.some Jvm.ClassFile.FieldType.boolean)).before args0 about1 = true := code_word (m := ⟨2, 3⟩) (meth := k2m3) (c := k2c3) (by decide +kernel) rfl rfl rfl (by decide +kernel)
set_option maxRecDepth 65536 in
theorem w_c6 : (Jvm.Cond.code ({ cls := "com/example/overbook_guard/overbookguard/gate/Counters", name := "cores", desc := "(I)J" } : Jvm.MethodName) prog_1_method_5_code (2 : Nat) (Option.some Jvm.ClassFile.FieldType.long)).before args0 about1 = true := code_word (m := ⟨2, 4⟩) (meth := k2m4) (c := k2c4) (by decide +kernel) rfl rfl rfl (by decide +kernel)
set_option maxRecDepth 65536 in
theorem w_c7 : (Jvm.Cond.code ({ cls := "com/example/overbook_guard/overbookguard/gate/Counters", name := "gpus", desc := "(I)J" } : Jvm.MethodName) prog_1_method_6_code (2 : Nat) (Option.some Jvm.ClassFile.FieldType.long)).before args0 about1 = true := code_word (m := ⟨2, 5⟩) (meth := k2m5) (c := k2c5) (by decide +kernel) rfl rfl rfl (by decide +kernel)
set_option maxRecDepth 65536 in
theorem w_c8 : (Jvm.Cond.code ({ cls := "com/example/overbook_guard/overbookguard/gate/Counters", name := "seq", desc := "(I)J" } : Jvm.MethodName) prog_1_method_8_code (2 : Nat) (Option.some Jvm.ClassFile.FieldType.long)).before args0 about1 = true := code_word (m := ⟨2, 6⟩) (meth := k2m6) (c := k2c6) (by decide +kernel) rfl rfl rfl (by decide +kernel)
def codes1 : List Jvm.Cond := [Jvm.Cond.code x code maxLocals ret, Jvm.Cond.code ({ cls := "com/example/overbook_guard/overbookguard/gate/Counters", name := "<init>", desc := "(I)V" } : Jvm.MethodName) prog_1_method_1_code (2 : Nat) (Option.none : Option Jvm.ClassFile.FieldType), Jvm.Cond.code ({ cls := "java/lang/Object", name := "<init>", desc := "()V" } : Jvm.MethodName) object_method_1_code (1 : Nat) (Option.none : Option Jvm.ClassFile.FieldType), Jvm.Cond.code ({ cls := "com/example/overbook_guard/overbookguard/gate/Counters", name := "set", desc := "(IZZJJJ)V" } : Jvm.MethodName) prog_1_method_2_code (10 : Nat) (Option.none : Option Jvm.ClassFile.FieldType), Jvm.Cond.code ({ cls := "com/example/overbook_guard/overbookguard/gate/Counters", name := "held", desc := "(I)Z" } : Jvm.MethodName) prog_1_method_3_code (2 : Nat) (Option.some Jvm.ClassFile.FieldType.boolean), Jvm.Cond.code ({ cls := "com/example/overbook_guard/overbookguard/gate/Counters", name := "counted", desc := "(I)Z" } : Jvm.MethodName) prog_1_method_4_code (2 : Nat) (Option.some Jvm.ClassFile.FieldType.boolean), Jvm.Cond.code ({ cls := "com/example/overbook_guard/overbookguard/gate/Counters", name := "cores", desc := "(I)J" } : Jvm.MethodName) prog_1_method_5_code (2 : Nat) (Option.some Jvm.ClassFile.FieldType.long), Jvm.Cond.code ({ cls := "com/example/overbook_guard/overbookguard/gate/Counters", name := "gpus", desc := "(I)J" } : Jvm.MethodName) prog_1_method_6_code (2 : Nat) (Option.some Jvm.ClassFile.FieldType.long), Jvm.Cond.code ({ cls := "com/example/overbook_guard/overbookguard/gate/Counters", name := "seq", desc := "(I)J" } : Jvm.MethodName) prog_1_method_8_code (2 : Nat) (Option.some Jvm.ClassFile.FieldType.long)]
set_option maxRecDepth 65536 in
theorem codes_eq : words1.filter isCode = codes1 := rfl
theorem w_codes : ∀ c ∈ words1.filter isCode, c.before args0 about1 = true := by
  rw [codes_eq]
  intro c hc
  simp only [codes1, List.mem_cons, List.not_mem_nil, or_false] at hc
  rcases hc with rfl | rfl | rfl | rfl | rfl | rfl | rfl | rfl | rfl
  · exact w_c0
  · exact w_c1
  · exact w_c2
  · exact w_c3
  · exact w_c4
  · exact w_c5
  · exact w_c6
  · exact w_c7
  · exact w_c8
set_option maxRecDepth 65536 in
theorem w_t1 : (words1.take 24).all (fun c => isCode c || c.before args0 about1) = true := by decide +kernel
set_option maxRecDepth 65536 in
theorem w_t2 : ((words1.drop 24).take 24).all (fun c => isCode c || c.before args0 about1) = true := by decide +kernel
set_option maxRecDepth 65536 in
theorem w_t3 : ((words1.drop 24).drop 24).all (fun c => isCode c || c.before args0 about1) = true := by decide +kernel
theorem w_tables : (allAtoms (Jvm.Cond.code x code maxLocals ret :: tables_1)).before args0 about1 = true := by
  rw [allAtoms_all]
  show words1.all (fun c => c.before args0 about1) = true
  refine all_split ?_ w_codes
  rw [← List.take_append_drop 24 words1, List.all_append, w_t1, ← List.take_append_drop 24 (words1.drop 24), List.all_append, w_t2, w_t3]
  rfl
set_option maxRecDepth 65536 in
theorem w_case : (Jvm.Cond.and given_1 narrow_1).before args0 about1 = true := by decide +kernel
theorem w_applies : (headSpec (Jvm.Cond.code x code maxLocals ret :: tables_1) room_1).applies x e0.platform about1 = true :=
  (Spec.applies_iff w_frames).mpr ⟨w_running, w_runnable, w_alone, w_named, w_hears, w_ripe, w_room, w_tables⟩
theorem atStart : AtStart classFile x code maxLocals ret World_1 tables_1 room_1 Calls_1 rest_1 Pre_1 launch0 p0 e0 about1 theMethod args0 below0 :=
  ⟨lists_1, trivial, launch0.admits_env _ _ _, launch0.least_env, fairChoices_fair.cas, fairChoices_fair.clock, w_frames, w_args, w_heap, w_applies, trivial, trivial, w_case⟩
end start1
theorem witness_1 : WitnessClaimed_1 := ⟨start1.p0, start1.e0, start1.about1, start1.theMethod, start1.args0, start1.below0, start1.atStart⟩
end Jvm.Pilot.@@N@@
