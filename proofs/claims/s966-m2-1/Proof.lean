import JvmDerived
import JvmDerived.Pilot.@@N@@Statement
import JvmDerived.Pilot.@@N@@Code
set_option linter.unusedVariables false
set_option linter.unusedSimpArgs false
namespace Jvm.Pilot.@@N@@
open Jvm Jvm.ClassFile Sem Op Lib Jvm.Free Jvm.Stand Jvm.LawKit Jvm.RoadKit Bundle Jvm.Pilot.@@N@@.Jvm.D
section Layer
variable {p : Program} {l : Launch} {e : Env} {R : Room} {s : State} {m : MethodId} {args : Array Value} {below : List Frame} {meth : Method} {c : Code} {T : State} {locs : List Loc} {cells slots : Nat} {Q : Option Value → Heap → List Loc → Prop} {K N : Nat} {pc n : Nat} {Ls : Array Slot} {rest st : List Value} {Z : State} {a0 : Array Value} {h : Heap}
/-- from st on the invocation ends as Q says -/
def Goes (p : Program) (e : Env) (below : List Frame) (s : State) (Q : Option Value → Heap → List Loc → Prop) (K N : Nat) (st : State) : Prop :=
  ∃ s₂ o, Steps p.tables e below st s₂ ∧ s₂.status = .running ∧ Ended s₂ below o ∧ ∃ v L, o = .returned v ∧ Q v s₂.heap L ∧ FrameEnd s o s₂ L K N
theorem Goes.via {st st' : State} (g : Goes p e below s Q K N st') (h : ∀ t, Steps p.tables e below st' t → Steps p.tables e below st t) : Goes p e below s Q K N st := by
  obtain ⟨s₂, o, h1, r⟩ := g
  exact ⟨s₂, o, h _ h1, r⟩
/-- a body's contract -/
def Does (l : Launch) (Z : State) (y : MethodName) (bytes : ByteArray) (maxL : Nat) (ret : Option FieldType) (ws : List Jvm.Cond) (rm : Room) (as : Array Value) (h : Heap) (Q : Option Value → Heap → List Loc → Prop) : Prop :=
  MetFree l y (head1 (Jvm.Cond.code y bytes maxL ret :: ws) rm) (fun a U => a = as ∧ Z.Warmed39 U.vm ∧ U.heap = h) (fun _ _ _ _ _ => True) (fun _ U o U' => ∃ v L, o = .returned v ∧ Q v U'.heap L ∧ FrameEnd U o U' L rm.cells rm.slots)
theorem Does.of {y : MethodName} {bytes : ByteArray} {maxL : Nat} {ret : Option FieldType} {ws : List Jvm.Cond} {rm : Room} {as : Array Value} (hpl : plainFor y = true)
    (body : ∀ (p : Program) (e : Env) (s : State) (m : MethodId) (below : List Frame) (meth : Method) (c : Code) (T : State), p.tables.exec = Jvm.exec → c.code = bytes → c.maxLocals = maxL → s.vm.findClass y.cls = some m.cls → meth.name = y.name → meth.sig.returnType = ret → meth.locks = false → Z.Warmed39 s.vm → Stand p l e rm s m as below meth c T [] 0 0 → T.heap = h → Goes p e below s Q rm.cells rm.slots (T.setTop (entryFrame m as maxL))) : Does l Z y bytes maxL ret ws rm as h Q := by
  refine MetFree.of_bodySF hpl hisR ?_
  intro p e s m args below meth c s₁ Bd hml0 hP hK
  obtain ⟨rfl, hZ, hh⟩ := hP
  have X0 : Stand p l e rm s m args below meth c s₁ [] 0 0 := Stand.of_body Bd
  exact body p e s m below meth c s₁ Bd.exec Bd.bytes hml0 (findClass_of_methodNamed Bd.named) (name_of_methodNamed Bd.named Bd.method).1 Bd.returns Bd.notSynchronized hZ X0 (by rw [← hh, Bd.state]; rfl)
theorem o_entry {as : Array Value} {maxL : Nat} (q : entryFrame m as maxL = mkF m 0 Ls []) (g : Goes p e below s Q K N (T.setTop (mkF m 0 Ls []))) : Goes p e below s Q K N (T.setTop (entryFrame m as maxL)) := q ▸ g
theorem o_iload (X : Stand p l e R s m args below meth c T locs cells slots) (hx : p.tables.exec = Jvm.exec) {j : Nat} {v : Int32} (hd : decode c.code pc = .ok (.iload j, 2)) (hl : Ls[j]? = some (.val (.int v))) (hn : pc + 2 = n) (g : Goes p e below s Q K N (T.setTop (mkF m n Ls (.int v :: st)))) : Goes p e below s Q K N (T.setTop (mkF m pc Ls st)) := by
  subst hn
  exact g.via fun t k => XS.iload X.here hx rfl hd hl k
theorem o_iloadN (X : Stand p l e R s m args below meth c T locs cells slots) (hx : p.tables.exec = Jvm.exec) {j : Fin 4} {v : Int32} (hd : decode c.code pc = .ok (.iload_n j, 1)) (hl : Ls[j.val]? = some (.val (.int v))) (hn : pc + 1 = n) (g : Goes p e below s Q K N (T.setTop (mkF m n Ls (.int v :: st)))) : Goes p e below s Q K N (T.setTop (mkF m pc Ls st)) := by
  subst hn
  exact g.via fun t k => XS.iloadN X.here hx rfl hd hl k
theorem o_lload (X : Stand p l e R s m args below meth c T locs cells slots) (hx : p.tables.exec = Jvm.exec) {j : Nat} {v : Int64} (hd : decode c.code pc = .ok (.lload j, 2)) (hl : Ls[j]? = some (.val (.long v))) (hn : pc + 2 = n) (g : Goes p e below s Q K N (T.setTop (mkF m n Ls (.long v :: st)))) : Goes p e below s Q K N (T.setTop (mkF m pc Ls st)) := by
  subst hn
  exact g.via fun t k => XS.lload X.here hx rfl hd hl k
theorem o_lloadN (X : Stand p l e R s m args below meth c T locs cells slots) (hx : p.tables.exec = Jvm.exec) {j : Fin 4} {v : Int64} (hd : decode c.code pc = .ok (.lload_n j, 1)) (hl : Ls[j.val]? = some (.val (.long v))) (hn : pc + 1 = n) (g : Goes p e below s Q K N (T.setTop (mkF m n Ls (.long v :: st)))) : Goes p e below s Q K N (T.setTop (mkF m pc Ls st)) := by
  subst hn
  exact g.via fun t k => XS.lloadN X.here hx rfl hd hl k
theorem o_aload (X : Stand p l e R s m args below meth c T locs cells slots) (hx : p.tables.exec = Jvm.exec) {j : Nat} {v : Value} (hd : decode c.code pc = .ok (.aload j, 2)) (hl : Ls[j]? = some (.val v)) (hv : v.isRef = true) (hn : pc + 2 = n) (g : Goes p e below s Q K N (T.setTop (mkF m n Ls (v :: st)))) : Goes p e below s Q K N (T.setTop (mkF m pc Ls st)) := by
  subst hn
  exact g.via fun t k => XS.aload X.here hx rfl hd hl hv k
theorem o_aloadN (X : Stand p l e R s m args below meth c T locs cells slots) (hx : p.tables.exec = Jvm.exec) {j : Fin 4} {v : Value} (hd : decode c.code pc = .ok (.aload_n j, 1)) (hl : Ls[j.val]? = some (.val v)) (hv : v.isRef = true) (hn : pc + 1 = n) (g : Goes p e below s Q K N (T.setTop (mkF m n Ls (v :: st)))) : Goes p e below s Q K N (T.setTop (mkF m pc Ls st)) := by
  subst hn
  exact g.via fun t k => XS.aloadN X.here hx rfl hd hl hv k
theorem o_istore (X : Stand p l e R s m args below meth c T locs cells slots) (hx : p.tables.exec = Jvm.exec) {j : Nat} {v : Int32} {Ls' : Array Slot} (hd : decode c.code pc = .ok (.istore j, 2)) (hl : storeLocals Ls j (.int v) = some Ls') (hn : pc + 2 = n) (g : Goes p e below s Q K N (T.setTop (mkF m n Ls' rest))) : Goes p e below s Q K N (T.setTop (mkF m pc Ls (.int v :: rest))) := by
  subst hn
  exact g.via fun t k => XS.istore X.here hx rfl hd rfl hl k
theorem o_istoreN (X : Stand p l e R s m args below meth c T locs cells slots) (hx : p.tables.exec = Jvm.exec) {j : Fin 4} {v : Int32} {Ls' : Array Slot} (hd : decode c.code pc = .ok (.istore_n j, 1)) (hl : storeLocals Ls j.val (.int v) = some Ls') (hn : pc + 1 = n) (g : Goes p e below s Q K N (T.setTop (mkF m n Ls' rest))) : Goes p e below s Q K N (T.setTop (mkF m pc Ls (.int v :: rest))) := by
  subst hn
  exact g.via fun t k => XS.istoreN X.here hx rfl hd rfl hl k
theorem o_lstore (X : Stand p l e R s m args below meth c T locs cells slots) (hx : p.tables.exec = Jvm.exec) {j : Nat} {v : Int64} {Ls' : Array Slot} (hd : decode c.code pc = .ok (.lstore j, 2)) (hl : storeLocals Ls j (.long v) = some Ls') (hn : pc + 2 = n) (g : Goes p e below s Q K N (T.setTop (mkF m n Ls' rest))) : Goes p e below s Q K N (T.setTop (mkF m pc Ls (.long v :: rest))) := by
  subst hn
  exact g.via fun t k => XS.lstore X.here hx rfl hd rfl hl k
theorem o_lstoreN (X : Stand p l e R s m args below meth c T locs cells slots) (hx : p.tables.exec = Jvm.exec) {j : Fin 4} {v : Int64} {Ls' : Array Slot} (hd : decode c.code pc = .ok (.lstore_n j, 1)) (hl : storeLocals Ls j.val (.long v) = some Ls') (hn : pc + 1 = n) (g : Goes p e below s Q K N (T.setTop (mkF m n Ls' rest))) : Goes p e below s Q K N (T.setTop (mkF m pc Ls (.long v :: rest))) := by
  subst hn
  exact g.via fun t k => XS.lstoreN X.here hx rfl hd rfl hl k
theorem o_astore (X : Stand p l e R s m args below meth c T locs cells slots) (hx : p.tables.exec = Jvm.exec) {j : Nat} {v : Value} {Ls' : Array Slot} (hd : decode c.code pc = .ok (.astore j, 2)) (hv : v.isRef = true) (hl : storeLocals Ls j v = some Ls') (hn : pc + 2 = n) (g : Goes p e below s Q K N (T.setTop (mkF m n Ls' rest))) : Goes p e below s Q K N (T.setTop (mkF m pc Ls (v :: rest))) := by
  subst hn
  exact g.via fun t k => XS.astore X.here hx rfl hd rfl hv hl k
theorem o_astoreN (X : Stand p l e R s m args below meth c T locs cells slots) (hx : p.tables.exec = Jvm.exec) {j : Fin 4} {v : Value} {Ls' : Array Slot} (hd : decode c.code pc = .ok (.astore_n j, 1)) (hv : v.isRef = true) (hl : storeLocals Ls j.val v = some Ls') (hn : pc + 1 = n) (g : Goes p e below s Q K N (T.setTop (mkF m n Ls' rest))) : Goes p e below s Q K N (T.setTop (mkF m pc Ls (v :: rest))) := by
  subst hn
  exact g.via fun t k => XS.astoreN X.here hx rfl hd rfl hv hl k
theorem o_iinc (X : Stand p l e R s m args below meth c T locs cells slots) (hx : p.tables.exec = Jvm.exec) {j : Nat} {cst : Int} {x w : Int32} {Ls' : Array Slot} (hd : decode c.code pc = .ok (.iinc j cst, 3)) (hl : Ls[j]? = some (.val (.int x))) (hw : x + Int32.ofInt cst = w) (hl' : storeLocals Ls j (.int w) = some Ls') (hn : pc + 3 = n) (g : Goes p e below s Q K N (T.setTop (mkF m n Ls' st))) : Goes p e below s Q K N (T.setTop (mkF m pc Ls st)) := by
  subst hn
  exact g.via fun t k => XS.iinc X.here hx rfl hd hl (by rw [hw]; exact hl') k
theorem o_iconst (X : Stand p l e R s m args below meth c T locs cells slots) (hx : p.tables.exec = Jvm.exec) {i : Int} {v : Int32} (hd : decode c.code pc = .ok (.iconst i, 1)) (hv : Int32.ofInt i = v) (hn : pc + 1 = n) (g : Goes p e below s Q K N (T.setTop (mkF m n Ls (.int v :: st)))) : Goes p e below s Q K N (T.setTop (mkF m pc Ls st)) := by
  subst hn hv
  exact g.via fun t k => XS.iconst X.here hx rfl hd k
theorem o_bipush (X : Stand p l e R s m args below meth c T locs cells slots) (hx : p.tables.exec = Jvm.exec) {i : Int} {v : Int32} (hd : decode c.code pc = .ok (.bipush i, 2)) (hv : (Int8.ofInt i).toInt32 = v) (hn : pc + 2 = n) (g : Goes p e below s Q K N (T.setTop (mkF m n Ls (.int v :: st)))) : Goes p e below s Q K N (T.setTop (mkF m pc Ls st)) := by
  subst hn hv
  exact g.via fun t k => XS.bipush X.here hx rfl hd k
theorem o_sipush (X : Stand p l e R s m args below meth c T locs cells slots) (hx : p.tables.exec = Jvm.exec) {i : Int} {v : Int32} (hd : decode c.code pc = .ok (.sipush i, 3)) (hv : (Int16.ofInt i).toInt32 = v) (hn : pc + 3 = n) (g : Goes p e below s Q K N (T.setTop (mkF m n Ls (.int v :: st)))) : Goes p e below s Q K N (T.setTop (mkF m pc Ls st)) := by
  subst hn hv
  exact g.via fun t k => XS.sipush X.here hx rfl hd k
theorem o_lconst (X : Stand p l e R s m args below meth c T locs cells slots) (hx : p.tables.exec = Jvm.exec) {j : Fin 2} {v : Int64} (hd : decode c.code pc = .ok (.lconst j, 1)) (hv : Int64.ofNat j = v) (hn : pc + 1 = n) (g : Goes p e below s Q K N (T.setTop (mkF m n Ls (.long v :: st)))) : Goes p e below s Q K N (T.setTop (mkF m pc Ls st)) := by
  subst hn hv
  exact g.via fun t k => XS.lconst X.here hx rfl hd k
theorem o_aconst_null (X : Stand p l e R s m args below meth c T locs cells slots) (hx : p.tables.exec = Jvm.exec)  (hd : decode c.code pc = .ok (.aconst_null, 1)) (hn : pc + 1 = n) (g : Goes p e below s Q K N (T.setTop (mkF m n Ls (.null :: st)))) : Goes p e below s Q K N (T.setTop (mkF m pc Ls st)) := by
  subst hn
  exact g.via fun t k => XS.aconstNull X.here hx rfl hd k
theorem o_ldc (X : Stand p l e R s m args below meth c T locs cells slots) (hx : p.tables.exec = Jvm.exec)  (hZ : Z.Warmed39 s.vm) {own : String} {index : Nat} {v : Int32} (hown : s.vm.findClass own = some m.cls) (w : (Jvm.Cond.constant own index v).before a0 Z = true) (hd : decode c.code pc = .ok (.ldc index, 2)) (hn : pc + 2 = n) (g : Goes p e below s Q K N (T.setTop (mkF m n Ls (.int v :: st)))) : Goes p e below s Q K N (T.setTop (mkF m pc Ls st)) := by
  subst hn
  exact g.via fun t k => X.ldcInt hx hown (mvT hZ w) (g := mkF m pc Ls st) rfl hd t k
theorem o_ldc_w (X : Stand p l e R s m args below meth c T locs cells slots) (hx : p.tables.exec = Jvm.exec)  (hZ : Z.Warmed39 s.vm) {own : String} {index : Nat} {v : Int32} (hown : s.vm.findClass own = some m.cls) (w : (Jvm.Cond.constant own index v).before a0 Z = true) (hd : decode c.code pc = .ok (.ldc_w index, 3)) (hn : pc + 3 = n) (g : Goes p e below s Q K N (T.setTop (mkF m n Ls (.int v :: st)))) : Goes p e below s Q K N (T.setTop (mkF m pc Ls st)) := by
  subst hn
  exact g.via fun t k => X.ldcWInt hx hown (mvT hZ w) (g := mkF m pc Ls st) rfl hd t k
theorem o_ldc2_w (X : Stand p l e R s m args below meth c T locs cells slots) (hx : p.tables.exec = Jvm.exec)  (hZ : Z.Warmed39 s.vm) {own : String} {index : Nat} {v : Int64} (hown : s.vm.findClass own = some m.cls) (w : (Jvm.Cond.constantLong own index v).before a0 Z = true) (hd : decode c.code pc = .ok (.ldc2_w index, 3)) (hn : pc + 3 = n) (g : Goes p e below s Q K N (T.setTop (mkF m n Ls (.long v :: st)))) : Goes p e below s Q K N (T.setTop (mkF m pc Ls st)) := by
  subst hn
  exact g.via fun t k => X.ldc2Long hx hown (mvT hZ w) (g := mkF m pc Ls st) rfl hd t k
theorem o_iadd (X : Stand p l e R s m args below meth c T locs cells slots) (hx : p.tables.exec = Jvm.exec) {x y v : Int32} (hd : decode c.code pc = .ok (.iadd, 1)) (hv : x + y = v) (hn : pc + 1 = n) (g : Goes p e below s Q K N (T.setTop (mkF m n Ls (.int v :: rest)))) : Goes p e below s Q K N (T.setTop (mkF m pc Ls (.int y :: .int x :: rest))) := by
  subst hn hv
  exact g.via fun t k => XS.iadd X.here hx rfl hd rfl k
theorem o_isub (X : Stand p l e R s m args below meth c T locs cells slots) (hx : p.tables.exec = Jvm.exec) {x y v : Int32} (hd : decode c.code pc = .ok (.isub, 1)) (hv : x - y = v) (hn : pc + 1 = n) (g : Goes p e below s Q K N (T.setTop (mkF m n Ls (.int v :: rest)))) : Goes p e below s Q K N (T.setTop (mkF m pc Ls (.int y :: .int x :: rest))) := by
  subst hn hv
  exact g.via fun t k => XS.isub X.here hx rfl hd rfl k
theorem o_imul (X : Stand p l e R s m args below meth c T locs cells slots) (hx : p.tables.exec = Jvm.exec) {x y v : Int32} (hd : decode c.code pc = .ok (.imul, 1)) (hv : x * y = v) (hn : pc + 1 = n) (g : Goes p e below s Q K N (T.setTop (mkF m n Ls (.int v :: rest)))) : Goes p e below s Q K N (T.setTop (mkF m pc Ls (.int y :: .int x :: rest))) := by
  subst hn hv
  exact g.via fun t k => XS.imul X.here hx rfl hd rfl k
theorem o_iand (X : Stand p l e R s m args below meth c T locs cells slots) (hx : p.tables.exec = Jvm.exec) {x y v : Int32} (hd : decode c.code pc = .ok (.iand, 1)) (hv : x &&& y = v) (hn : pc + 1 = n) (g : Goes p e below s Q K N (T.setTop (mkF m n Ls (.int v :: rest)))) : Goes p e below s Q K N (T.setTop (mkF m pc Ls (.int y :: .int x :: rest))) := by
  subst hn hv
  exact g.via fun t k => XS.iand X.here hx rfl hd rfl k
theorem o_ior (X : Stand p l e R s m args below meth c T locs cells slots) (hx : p.tables.exec = Jvm.exec) {x y v : Int32} (hd : decode c.code pc = .ok (.ior, 1)) (hv : x ||| y = v) (hn : pc + 1 = n) (g : Goes p e below s Q K N (T.setTop (mkF m n Ls (.int v :: rest)))) : Goes p e below s Q K N (T.setTop (mkF m pc Ls (.int y :: .int x :: rest))) := by
  subst hn hv
  exact g.via fun t k => XS.ior X.here hx rfl hd rfl k
theorem o_ixor (X : Stand p l e R s m args below meth c T locs cells slots) (hx : p.tables.exec = Jvm.exec) {x y v : Int32} (hd : decode c.code pc = .ok (.ixor, 1)) (hv : x ^^^ y = v) (hn : pc + 1 = n) (g : Goes p e below s Q K N (T.setTop (mkF m n Ls (.int v :: rest)))) : Goes p e below s Q K N (T.setTop (mkF m pc Ls (.int y :: .int x :: rest))) := by
  subst hn hv
  exact g.via fun t k => XS.ixor X.here hx rfl hd rfl k
theorem o_ladd (X : Stand p l e R s m args below meth c T locs cells slots) (hx : p.tables.exec = Jvm.exec) {x y v : Int64} (hd : decode c.code pc = .ok (.ladd, 1)) (hv : x + y = v) (hn : pc + 1 = n) (g : Goes p e below s Q K N (T.setTop (mkF m n Ls (.long v :: rest)))) : Goes p e below s Q K N (T.setTop (mkF m pc Ls (.long y :: .long x :: rest))) := by
  subst hn hv
  exact g.via fun t k => XS.ladd X.here hx rfl hd rfl k
theorem o_lsub (X : Stand p l e R s m args below meth c T locs cells slots) (hx : p.tables.exec = Jvm.exec) {x y v : Int64} (hd : decode c.code pc = .ok (.lsub, 1)) (hv : x - y = v) (hn : pc + 1 = n) (g : Goes p e below s Q K N (T.setTop (mkF m n Ls (.long v :: rest)))) : Goes p e below s Q K N (T.setTop (mkF m pc Ls (.long y :: .long x :: rest))) := by
  subst hn hv
  exact g.via fun t k => XS.lsub X.here hx rfl hd rfl k
theorem o_lmul (X : Stand p l e R s m args below meth c T locs cells slots) (hx : p.tables.exec = Jvm.exec) {x y v : Int64} (hd : decode c.code pc = .ok (.lmul, 1)) (hv : x * y = v) (hn : pc + 1 = n) (g : Goes p e below s Q K N (T.setTop (mkF m n Ls (.long v :: rest)))) : Goes p e below s Q K N (T.setTop (mkF m pc Ls (.long y :: .long x :: rest))) := by
  subst hn hv
  exact g.via fun t k => XS.lmul X.here hx rfl hd rfl k
theorem o_land (X : Stand p l e R s m args below meth c T locs cells slots) (hx : p.tables.exec = Jvm.exec) {x y v : Int64} (hd : decode c.code pc = .ok (.land, 1)) (hv : x &&& y = v) (hn : pc + 1 = n) (g : Goes p e below s Q K N (T.setTop (mkF m n Ls (.long v :: rest)))) : Goes p e below s Q K N (T.setTop (mkF m pc Ls (.long y :: .long x :: rest))) := by
  subst hn hv
  exact g.via fun t k => XS.land X.here hx rfl hd rfl k
theorem o_lor (X : Stand p l e R s m args below meth c T locs cells slots) (hx : p.tables.exec = Jvm.exec) {x y v : Int64} (hd : decode c.code pc = .ok (.lor, 1)) (hv : x ||| y = v) (hn : pc + 1 = n) (g : Goes p e below s Q K N (T.setTop (mkF m n Ls (.long v :: rest)))) : Goes p e below s Q K N (T.setTop (mkF m pc Ls (.long y :: .long x :: rest))) := by
  subst hn hv
  exact g.via fun t k => XS.lor X.here hx rfl hd rfl k
theorem o_lxor (X : Stand p l e R s m args below meth c T locs cells slots) (hx : p.tables.exec = Jvm.exec) {x y v : Int64} (hd : decode c.code pc = .ok (.lxor, 1)) (hv : x ^^^ y = v) (hn : pc + 1 = n) (g : Goes p e below s Q K N (T.setTop (mkF m n Ls (.long v :: rest)))) : Goes p e below s Q K N (T.setTop (mkF m pc Ls (.long y :: .long x :: rest))) := by
  subst hn hv
  exact g.via fun t k => XS.lxor X.here hx rfl hd rfl k
theorem o_idiv (X : Stand p l e R s m args below meth c T locs cells slots) (hx : p.tables.exec = Jvm.exec) {x y v : Int32} (hd : decode c.code pc = .ok (.idiv, 1)) (hy : y ≠ 0) (hv : x / y = v) (hn : pc + 1 = n) (g : Goes p e below s Q K N (T.setTop (mkF m n Ls (.int v :: rest)))) : Goes p e below s Q K N (T.setTop (mkF m pc Ls (.int y :: .int x :: rest))) := by
  subst hn hv
  exact g.via fun t k => XS.idiv X.here hx rfl hd rfl hy k
theorem o_irem (X : Stand p l e R s m args below meth c T locs cells slots) (hx : p.tables.exec = Jvm.exec) {x y v : Int32} (hd : decode c.code pc = .ok (.irem, 1)) (hy : y ≠ 0) (hv : x % y = v) (hn : pc + 1 = n) (g : Goes p e below s Q K N (T.setTop (mkF m n Ls (.int v :: rest)))) : Goes p e below s Q K N (T.setTop (mkF m pc Ls (.int y :: .int x :: rest))) := by
  subst hn hv
  exact g.via fun t k => iremM X hx (g := mkF m pc Ls _) rfl hd rfl hy k
theorem o_ldiv (X : Stand p l e R s m args below meth c T locs cells slots) (hx : p.tables.exec = Jvm.exec) {x y v : Int64} (hd : decode c.code pc = .ok (.ldiv, 1)) (hy : y ≠ 0) (hv : x / y = v) (hn : pc + 1 = n) (g : Goes p e below s Q K N (T.setTop (mkF m n Ls (.long v :: rest)))) : Goes p e below s Q K N (T.setTop (mkF m pc Ls (.long y :: .long x :: rest))) := by
  subst hn hv
  exact g.via fun t k => XS.ldiv X.here hx rfl hd rfl hy k
theorem o_lrem (X : Stand p l e R s m args below meth c T locs cells slots) (hx : p.tables.exec = Jvm.exec) {x y v : Int64} (hd : decode c.code pc = .ok (.lrem, 1)) (hy : y ≠ 0) (hv : x % y = v) (hn : pc + 1 = n) (g : Goes p e below s Q K N (T.setTop (mkF m n Ls (.long v :: rest)))) : Goes p e below s Q K N (T.setTop (mkF m pc Ls (.long y :: .long x :: rest))) := by
  subst hn hv
  exact g.via fun t k => XS.lrem X.here hx rfl hd rfl hy (by rw [lrem_mod]; exact k)
theorem o_ishl (X : Stand p l e R s m args below meth c T locs cells slots) (hx : p.tables.exec = Jvm.exec) {x y v : Int32} (hd : decode c.code pc = .ok (.ishl, 1)) (hv : x <<< (y &&& 31) = v) (hn : pc + 1 = n) (g : Goes p e below s Q K N (T.setTop (mkF m n Ls (.int v :: rest)))) : Goes p e below s Q K N (T.setTop (mkF m pc Ls (.int y :: .int x :: rest))) := by
  subst hn hv
  exact g.via fun t k => XS.ishl X.here hx rfl hd rfl k
theorem o_ishr (X : Stand p l e R s m args below meth c T locs cells slots) (hx : p.tables.exec = Jvm.exec) {x y v : Int32} (hd : decode c.code pc = .ok (.ishr, 1)) (hv : x >>> (y &&& 31) = v) (hn : pc + 1 = n) (g : Goes p e below s Q K N (T.setTop (mkF m n Ls (.int v :: rest)))) : Goes p e below s Q K N (T.setTop (mkF m pc Ls (.int y :: .int x :: rest))) := by
  subst hn hv
  exact g.via fun t k => XS.ishr X.here hx rfl hd rfl k
theorem o_iushr (X : Stand p l e R s m args below meth c T locs cells slots) (hx : p.tables.exec = Jvm.exec) {x y v : Int32} (hd : decode c.code pc = .ok (.iushr, 1)) (hv : (x.toUInt32 >>> (y &&& 31).toUInt32).toInt32 = v) (hn : pc + 1 = n) (g : Goes p e below s Q K N (T.setTop (mkF m n Ls (.int v :: rest)))) : Goes p e below s Q K N (T.setTop (mkF m pc Ls (.int y :: .int x :: rest))) := by
  subst hn hv
  exact g.via fun t k => XS.iushr X.here hx rfl hd rfl k
theorem o_lshl (X : Stand p l e R s m args below meth c T locs cells slots) (hx : p.tables.exec = Jvm.exec) {x v : Int64} {y : Int32} (hd : decode c.code pc = .ok (.lshl, 1)) (hv : x <<< (y &&& 0x3f).toInt64 = v) (hn : pc + 1 = n) (g : Goes p e below s Q K N (T.setTop (mkF m n Ls (.long v :: rest)))) : Goes p e below s Q K N (T.setTop (mkF m pc Ls (.int y :: .long x :: rest))) := by
  subst hn hv
  exact g.via fun t k => XS.lshl X.here hx rfl hd rfl k
theorem o_lshr (X : Stand p l e R s m args below meth c T locs cells slots) (hx : p.tables.exec = Jvm.exec) {x v : Int64} {y : Int32} (hd : decode c.code pc = .ok (.lshr, 1)) (hv : x >>> (y &&& 0x3f).toInt64 = v) (hn : pc + 1 = n) (g : Goes p e below s Q K N (T.setTop (mkF m n Ls (.long v :: rest)))) : Goes p e below s Q K N (T.setTop (mkF m pc Ls (.int y :: .long x :: rest))) := by
  subst hn hv
  exact g.via fun t k => XS.lshr X.here hx rfl hd rfl k
theorem o_lushr (X : Stand p l e R s m args below meth c T locs cells slots) (hx : p.tables.exec = Jvm.exec) {x v : Int64} {y : Int32} (hd : decode c.code pc = .ok (.lushr, 1)) (hv : (x.toUInt64 >>> (y &&& 0x3f).toInt64.toUInt64).toInt64 = v) (hn : pc + 1 = n) (g : Goes p e below s Q K N (T.setTop (mkF m n Ls (.long v :: rest)))) : Goes p e below s Q K N (T.setTop (mkF m pc Ls (.int y :: .long x :: rest))) := by
  subst hn hv
  exact g.via fun t k => XS.lushr X.here hx rfl hd rfl k
theorem o_i2l (X : Stand p l e R s m args below meth c T locs cells slots) (hx : p.tables.exec = Jvm.exec) {x : Int32} {v : Int64} (hd : decode c.code pc = .ok (.i2l, 1)) (hv : x.toInt64 = v) (hn : pc + 1 = n) (g : Goes p e below s Q K N (T.setTop (mkF m n Ls (.long v :: rest)))) : Goes p e below s Q K N (T.setTop (mkF m pc Ls (.int x :: rest))) := by
  subst hn hv
  exact g.via fun t k => XS.i2l X.here hx rfl hd rfl k
theorem o_l2i (X : Stand p l e R s m args below meth c T locs cells slots) (hx : p.tables.exec = Jvm.exec) {x : Int64} {v : Int32} (hd : decode c.code pc = .ok (.l2i, 1)) (hv : x.toInt32 = v) (hn : pc + 1 = n) (g : Goes p e below s Q K N (T.setTop (mkF m n Ls (.int v :: rest)))) : Goes p e below s Q K N (T.setTop (mkF m pc Ls (.long x :: rest))) := by
  subst hn hv
  exact g.via fun t k => XS.l2i X.here hx rfl hd rfl k
theorem o_i2b (X : Stand p l e R s m args below meth c T locs cells slots) (hx : p.tables.exec = Jvm.exec) {x : Int32} {v : Int32} (hd : decode c.code pc = .ok (.i2b, 1)) (hv : x.toInt8.toInt32 = v) (hn : pc + 1 = n) (g : Goes p e below s Q K N (T.setTop (mkF m n Ls (.int v :: rest)))) : Goes p e below s Q K N (T.setTop (mkF m pc Ls (.int x :: rest))) := by
  subst hn hv
  exact g.via fun t k => XS.i2b X.here hx rfl hd rfl k
theorem o_i2c (X : Stand p l e R s m args below meth c T locs cells slots) (hx : p.tables.exec = Jvm.exec) {x : Int32} {v : Int32} (hd : decode c.code pc = .ok (.i2c, 1)) (hv : x.toUInt32.toUInt16.toUInt32.toInt32 = v) (hn : pc + 1 = n) (g : Goes p e below s Q K N (T.setTop (mkF m n Ls (.int v :: rest)))) : Goes p e below s Q K N (T.setTop (mkF m pc Ls (.int x :: rest))) := by
  subst hn hv
  exact g.via fun t k => XS.i2c X.here hx rfl hd rfl k
theorem o_i2s (X : Stand p l e R s m args below meth c T locs cells slots) (hx : p.tables.exec = Jvm.exec) {x : Int32} {v : Int32} (hd : decode c.code pc = .ok (.i2s, 1)) (hv : x.toInt16.toInt32 = v) (hn : pc + 1 = n) (g : Goes p e below s Q K N (T.setTop (mkF m n Ls (.int v :: rest)))) : Goes p e below s Q K N (T.setTop (mkF m pc Ls (.int x :: rest))) := by
  subst hn hv
  exact g.via fun t k => XS.i2s X.here hx rfl hd rfl k
theorem o_ineg (X : Stand p l e R s m args below meth c T locs cells slots) (hx : p.tables.exec = Jvm.exec) {x : Int32} {v : Int32} (hd : decode c.code pc = .ok (.ineg, 1)) (hv : -x = v) (hn : pc + 1 = n) (g : Goes p e below s Q K N (T.setTop (mkF m n Ls (.int v :: rest)))) : Goes p e below s Q K N (T.setTop (mkF m pc Ls (.int x :: rest))) := by
  subst hn hv
  exact g.via fun t k => XS.ineg X.here hx rfl hd rfl k
theorem o_lneg (X : Stand p l e R s m args below meth c T locs cells slots) (hx : p.tables.exec = Jvm.exec) {x : Int64} {v : Int64} (hd : decode c.code pc = .ok (.lneg, 1)) (hv : -x = v) (hn : pc + 1 = n) (g : Goes p e below s Q K N (T.setTop (mkF m n Ls (.long v :: rest)))) : Goes p e below s Q K N (T.setTop (mkF m pc Ls (.long x :: rest))) := by
  subst hn hv
  exact g.via fun t k => XS.lneg X.here hx rfl hd rfl k
theorem o_lcmp (X : Stand p l e R s m args below meth c T locs cells slots) (hx : p.tables.exec = Jvm.exec) {x y : Int64} (hd : decode c.code pc = .ok (.lcmp, 1)) (hn : pc + 1 = n) (g : Goes p e below s Q K N (T.setTop (mkF m n Ls (.int (XT.cmpL x y) :: rest)))) : Goes p e below s Q K N (T.setTop (mkF m pc Ls (.long y :: .long x :: rest))) := by
  subst hn
  exact g.via fun t k => XT.lcmp X.here hx rfl hd rfl k
theorem o_dup (X : Stand p l e R s m args below meth c T locs cells slots) (hx : p.tables.exec = Jvm.exec) {v : Value} (hd : decode c.code pc = .ok (.dup, 1)) (hv : v.category = 1) (hn : pc + 1 = n) (g : Goes p e below s Q K N (T.setTop (mkF m n Ls (v :: v :: rest)))) : Goes p e below s Q K N (T.setTop (mkF m pc Ls (v :: rest))) := by
  subst hn
  exact g.via fun t k => XS.dup X.here hx rfl hd rfl hv k
theorem o_dup_x1 (X : Stand p l e R s m args below meth c T locs cells slots) (hx : p.tables.exec = Jvm.exec) {v w : Value} (hd : decode c.code pc = .ok (.dup_x1, 1)) (hv : v.category = 1) (hw : w.category = 1) (hn : pc + 1 = n) (g : Goes p e below s Q K N (T.setTop (mkF m n Ls (v :: w :: v :: rest)))) : Goes p e below s Q K N (T.setTop (mkF m pc Ls (v :: w :: rest))) := by
  subst hn
  exact g.via fun t k => XS.dupX1 X.here hx rfl hd rfl hv hw k
theorem o_dup2 (X : Stand p l e R s m args below meth c T locs cells slots) (hx : p.tables.exec = Jvm.exec) {v w : Value} (hd : decode c.code pc = .ok (.dup2, 1)) (hv : v.category = 1) (hw : w.category = 1) (hn : pc + 1 = n) (g : Goes p e below s Q K N (T.setTop (mkF m n Ls (v :: w :: v :: w :: rest)))) : Goes p e below s Q K N (T.setTop (mkF m pc Ls (v :: w :: rest))) := by
  subst hn
  exact g.via fun t k => XT.dup2 X.here hx rfl hd rfl hv hw k
theorem o_pop (X : Stand p l e R s m args below meth c T locs cells slots) (hx : p.tables.exec = Jvm.exec) {v : Value} (hd : decode c.code pc = .ok (.pop, 1)) (hv : v.category = 1) (hn : pc + 1 = n) (g : Goes p e below s Q K N (T.setTop (mkF m n Ls rest))) : Goes p e below s Q K N (T.setTop (mkF m pc Ls (v :: rest))) := by
  subst hn
  exact g.via fun t k => XS.pop X.here hx rfl hd rfl hv k
theorem o_goto (X : Stand p l e R s m args below meth c T locs cells slots) (hx : p.tables.exec = Jvm.exec) {o : Int} (hd : decode c.code pc = .ok (.goto o, 3)) (ho : 0 ≤ (pc : Int) + o) (hn : ((pc : Int) + o).toNat = n) (g : Goes p e below s Q K N (T.setTop (mkF m n Ls st))) : Goes p e below s Q K N (T.setTop (mkF m pc Ls st)) := by
  exact g.via fun t k => XS.goto X.here hx rfl rfl hd ho hn k
theorem o_ifY (X : Stand p l e R s m args below meth c T locs cells slots) (hx : p.tables.exec = Jvm.exec) {cd : ClassFile.Cond} {x : Int32} {o : Int} (hd : decode c.code pc = .ok (.ifCond cd o, 3)) (hc : ifCond.holds cd x = true) (ho : 0 ≤ (pc : Int) + o) (hn : ((pc : Int) + o).toNat = n) (g : Goes p e below s Q K N (T.setTop (mkF m n Ls rest))) : Goes p e below s Q K N (T.setTop (mkF m pc Ls (.int x :: rest))) := by
  exact g.via fun t k => XS.ifYes X.here hx rfl rfl hd rfl hc ho hn k
theorem o_ifN (X : Stand p l e R s m args below meth c T locs cells slots) (hx : p.tables.exec = Jvm.exec) {cd : ClassFile.Cond} {x : Int32} {o : Int} (hd : decode c.code pc = .ok (.ifCond cd o, 3)) (hc : ifCond.holds cd x = false) (hn : pc + 3 = n) (g : Goes p e below s Q K N (T.setTop (mkF m n Ls rest))) : Goes p e below s Q K N (T.setTop (mkF m pc Ls (.int x :: rest))) := by
  subst hn
  exact g.via fun t k => XS.ifNo X.here hx rfl hd rfl hc k
theorem o_icmpY (X : Stand p l e R s m args below meth c T locs cells slots) (hx : p.tables.exec = Jvm.exec) {cd : ClassFile.Cond} {x y : Int32} {o : Int} (hd : decode c.code pc = .ok (.if_icmp cd o, 3)) (hc : if_icmp.holds cd x y = true) (ho : 0 ≤ (pc : Int) + o) (hn : ((pc : Int) + o).toNat = n) (g : Goes p e below s Q K N (T.setTop (mkF m n Ls rest))) : Goes p e below s Q K N (T.setTop (mkF m pc Ls (.int y :: .int x :: rest))) := by
  exact g.via fun t k => XS.icmpYes X.here hx rfl rfl hd rfl hc ho hn k
theorem o_icmpN (X : Stand p l e R s m args below meth c T locs cells slots) (hx : p.tables.exec = Jvm.exec) {cd : ClassFile.Cond} {x y : Int32} {o : Int} (hd : decode c.code pc = .ok (.if_icmp cd o, 3)) (hc : if_icmp.holds cd x y = false) (hn : pc + 3 = n) (g : Goes p e below s Q K N (T.setTop (mkF m n Ls rest))) : Goes p e below s Q K N (T.setTop (mkF m pc Ls (.int y :: .int x :: rest))) := by
  subst hn
  exact g.via fun t k => XS.icmpNo X.here hx rfl hd rfl hc k
theorem o_ifnullY (X : Stand p l e R s m args below meth c T locs cells slots) (hx : p.tables.exec = Jvm.exec) {o : Int} (hd : decode c.code pc = .ok (.ifnull o, 3)) (ho : 0 ≤ (pc : Int) + o) (hn : ((pc : Int) + o).toNat = n) (g : Goes p e below s Q K N (T.setTop (mkF m n Ls rest))) : Goes p e below s Q K N (T.setTop (mkF m pc Ls (.null :: rest))) := by
  exact g.via fun t k => XS.ifnullYes X.here hx rfl rfl hd rfl ho hn k
theorem o_ifnullN (X : Stand p l e R s m args below meth c T locs cells slots) (hx : p.tables.exec = Jvm.exec) {o : Int} {a : Addr} (hd : decode c.code pc = .ok (.ifnull o, 3)) (hn : pc + 3 = n) (g : Goes p e below s Q K N (T.setTop (mkF m n Ls rest))) : Goes p e below s Q K N (T.setTop (mkF m pc Ls (.ref a :: rest))) := by
  subst hn
  exact g.via fun t k => XS.ifnullNo X.here hx rfl hd rfl k
theorem o_ifnonnullY (X : Stand p l e R s m args below meth c T locs cells slots) (hx : p.tables.exec = Jvm.exec) {o : Int} {a : Addr} (hd : decode c.code pc = .ok (.ifnonnull o, 3)) (ho : 0 ≤ (pc : Int) + o) (hn : ((pc : Int) + o).toNat = n) (g : Goes p e below s Q K N (T.setTop (mkF m n Ls rest))) : Goes p e below s Q K N (T.setTop (mkF m pc Ls (.ref a :: rest))) := by
  exact g.via fun t k => XS.ifnonnullYes X.here hx rfl rfl hd rfl ho hn k
theorem o_ifnonnullN (X : Stand p l e R s m args below meth c T locs cells slots) (hx : p.tables.exec = Jvm.exec) {o : Int} (hd : decode c.code pc = .ok (.ifnonnull o, 3)) (hn : pc + 3 = n) (g : Goes p e below s Q K N (T.setTop (mkF m n Ls rest))) : Goes p e below s Q K N (T.setTop (mkF m pc Ls (.null :: rest))) := by
  subst hn
  exact g.via fun t k => XS.ifnonnullNo X.here hx rfl hd rfl k
theorem o_acmp (X : Stand p l e R s m args below meth c T locs cells slots) (hx : p.tables.exec = Jvm.exec) {cd : ACond} {x y : Value} {o : Int} {same : Bool} (hd : decode c.code pc = .ok (.if_acmp cd o, 3)) (h1 : x.isRef = true) (h2 : y.isRef = true) (hq : decide (x = y) = same) (ho : 0 ≤ (pc : Int) + o) (hn : n = if acV cd same = true then ((pc : Int) + o).toNat else pc + 3) (g : Goes p e below s Q K N (T.setTop (mkF m n Ls rest))) : Goes p e below s Q K N (T.setTop (mkF m pc Ls (y :: x :: rest))) := by
  exact g.via fun t k => Jvm.RoadKit.acmp X hx (g := mkF m pc Ls _) rfl h1 h2 rfl hd rfl hq ho hn k
/-! the heap -/
theorem o_getfield (X : Stand p l e R s m args below meth c T locs cells slots) (hx : p.tables.exec = Jvm.exec) (hZ : Z.Warmed39 s.vm) {own R0 O nm d host : String} {index : Nat} (hown : s.vm.findClass own = some m.cls) (w : (Jvm.Cond.fieldLink own index R0 nm d).before a0 Z = true ∨ (Jvm.Cond.fieldLinkNest own index R0 nm d host).before a0 Z = true) (via : Via Z R0 O nm d) (eT : T.heap = h) {a : Addr} {v : Value} (F : Fld Z h a O nm d v)
    (hd : decode c.code pc = .ok (.getfield index, 3)) (hn : pc + 3 = n) (k : ∀ T', Stand p l e R s m args below meth c T' locs cells slots → T'.heap = h → Goes p e below s Q K N (T'.setTop (mkF m n Ls (v :: rest)))) : Goes p e below s Q K N (T.setTop (mkF m pc Ls (.ref a :: rest))) := by
  subst hn
  obtain ⟨T', X', e', st'⟩ := getF X hx hZ hown w via eT F (g := mkF m pc Ls (.ref a :: rest)) rfl rfl hd
  exact (k T' X' e').via st'
theorem o_putfield (X : Stand p l e R s m args below meth c T locs cells slots) (hx : p.tables.exec = Jvm.exec) (hZ : Z.Warmed39 s.vm) {own R0 O nm d host C : String} {index kk : Nat} {ty : FieldType} (hown : s.vm.findClass own = some m.cls) (w : (Jvm.Cond.fieldLink own index R0 nm d).before a0 Z = true ∨ (Jvm.Cond.fieldLinkNest own index R0 nm d host).before a0 Z = true) (via : Via Z R0 O nm d) (eT : T.heap = h) {a : Addr} {v old : Value} (F : Fld Z h a O nm d old) (E : Exa Z h a C)
    (L : (Jvm.Cond.lays C O nm d).before a0 Z = true ∨ ((Jvm.Cond.laysFinal C O nm d).before a0 Z = true ∧ own = O ∧ meth.name = "<init>")) (wi : (Jvm.Cond.instantiable C kk).before a0 Z = true) (hty : parseFieldDescriptor d = some ty) (hnn : narrow ty v = v) (hf : fits ty v = true) (hd : decode c.code pc = .ok (.putfield index, 3)) (hn : pc + 3 = n)
    (k : ∀ T' h', Stand p l e R s m args below meth c T' (locs ++ [⟨a, Jvm.RoadKit.slotOf Z O nm d⟩]) cells slots → T'.heap = h' → Wr h h' a (Jvm.RoadKit.slotOf Z O nm d) v → Fld Z h' a O nm d v → Exa Z h' a C → Goes p e below s Q K N (T'.setTop (mkF m n Ls rest))) : Goes p e below s Q K N (T.setTop (mkF m pc Ls (v :: .ref a :: rest))) := by
  subst hn
  obtain ⟨T', h', X', e', W, st'⟩ := putF X hx hZ hown w via eT F E L wi hty hnn hf (g := mkF m pc Ls (v :: .ref a :: rest)) rfl rfl hd
  exact (k T' h' X' e' W (F.same W) (E.wr W)).via st'
theorem o_getstatic (X : Stand p l e R s m args below meth c T locs cells slots) (hx : p.tables.exec = Jvm.exec) (hZ : Z.Warmed39 s.vm) {own R0 O nm d host : String} {index : Nat} (hown : s.vm.findClass own = some m.cls) (w : (Jvm.Cond.fieldLink own index R0 nm d).before a0 Z = true ∨ (Jvm.Cond.fieldLinkNest own index R0 nm d host).before a0 Z = true) (via : Via Z R0 O nm d) (eT : T.heap = h) {v : Value} (F : Sta Z h O nm d v)
    (hd : decode c.code pc = .ok (.getstatic index, 3)) (hn : pc + 3 = n) (k : ∀ T', Stand p l e R s m args below meth c T' locs cells slots → T'.heap = h → Goes p e below s Q K N (T'.setTop (mkF m n Ls (v :: st)))) : Goes p e below s Q K N (T.setTop (mkF m pc Ls st)) := by
  subst hn
  obtain ⟨T', X', e', st'⟩ := getS2 X hx hZ hown w via eT F (g := mkF m pc Ls st) rfl hd
  exact (k T' X' e').via st'
theorem o_new (X : Stand p l e R s m args below meth c T locs cells slots) (hx : p.tables.exec = Jvm.exec) (hZ : Z.Warmed39 s.vm) {own C : String} {index kk : Nat} (hown : s.vm.findClass own = some m.cls) (w : (Jvm.Cond.classLink own index C).before a0 Z = true) (wi : (Jvm.Cond.instantiable C kk).before a0 Z = true) (wz : (Jvm.Cond.initialized C).before a0 Z = true) (eT : T.heap = h)
    (hd : decode c.code pc = .ok (.new index, 3)) (hc : cells + 1 ≤ R.cells) (hs : slots + kk ≤ R.slots) (hn : pc + 3 = n)
    (k : ∀ T' h' a, Stand p l e R s m args below meth c T' locs (cells + 1) (slots + kk) → T'.heap = h' → a = h.size → Ext h h' → Exa Z h' a C → (∀ {O nm d : String} {ty : FieldType}, Laid Z a0 C O nm d → parseFieldDescriptor d = some ty → Fld Z h' a O nm d (defaultValue ty)) → Goes p e below s Q K N (T'.setTop (mkF m n Ls (.ref a :: st)))) : Goes p e below s Q K N (T.setTop (mkF m pc Ls st)) := by
  subst hn
  obtain ⟨T', h', X', e', E, A, D, -, st'⟩ := newO X hx hZ hown w wi wz eT (g := mkF m pc Ls st) rfl hd hc hs
  exact (k T' h' _ X' e' rfl E A D).via st'
theorem o_newarray (X : Stand p l e R s m args below meth c T locs cells slots) (hx : p.tables.exec = Jvm.exec) (hZ : Z.Warmed39 s.vm) {aty : ArrayType} (w : (Jvm.Cond.arrayClass (newarray.typeOf aty)).before a0 Z = true) (eT : T.heap = h) {z : Int32} (hd : decode c.code pc = .ok (.newarray aty, 2)) (hz : ¬ z < 0) (cap : Nat) (hcap : z.toNatClampNeg ≤ cap) (hb : cap * 8 ≤ 536870912) (hc : cells + 1 ≤ R.cells) (hs : slots + cap ≤ R.slots) (hn : pc + 2 = n)
    (k : ∀ T' h' a cA, Stand p l e R s m args below meth c T' locs (cells + 1) (slots + cap) → T'.heap = h' → a = h.size → Ext h h' → Arv Z h' a cA (newarray.typeOf aty) z [] (defaultValue (newarray.typeOf aty)) → Goes p e below s Q K N (T'.setTop (mkF m n Ls (.ref a :: rest)))) : Goes p e below s Q K N (T.setTop (mkF m pc Ls (.int z :: rest))) := by
  subst hn
  obtain ⟨T', h', cA, X', e', E, A, st'⟩ := newP X hx hZ w eT (g := mkF m pc Ls (.int z :: rest)) rfl hd rfl hz hcap hb hc hs
  exact (k T' h' _ cA X' e' rfl E (Arv.new A hz)).via st'
theorem o_arraylength (X : Stand p l e R s m args below meth c T locs cells slots) (hx : p.tables.exec = Jvm.exec) (hZ : Z.Warmed39 s.vm) (eT : T.heap = h) {a : Addr} {k : ClassId} {ty : FieldType} {z : Int32} {vs : List Value} {dv : Value} (V : Arv Z h a k ty z vs dv) (hd : decode c.code pc = .ok (.arraylength, 1)) (hn : pc + 1 = n) (g : Goes p e below s Q K N (T.setTop (mkF m n Ls (.int z :: rest)))) : Goes p e below s Q K N (T.setTop (mkF m pc Ls (.ref a :: rest))) := by
  subst hn
  obtain ⟨cl, A, -, S, M, -, -⟩ := V
  refine g.via fun t k => X.arraylength hx (by rw [eT]; exact A.1) (State.isArrayOf_alike hZ.alike A.2.1) (g := mkF m pc Ls (.ref a :: rest)) rfl rfl hd t ?_
  rw [len_of S M]; exact k
theorem o_iaload (X : Stand p l e R s m args below meth c T locs cells slots) (hx : p.tables.exec = Jvm.exec) (hZ : Z.Warmed39 s.vm) (eT : T.heap = h) {a : Addr} {k : ClassId} {z j : Int32} {vs : List Value} {dv v : Value} (V : Arv Z h a k .int z vs dv) (i : Nat) (hi : j.toNatClampNeg = i) (hj : ¬ j < 0 ∧ j < z) (hv : vs.getD i dv = v) (hd : decode c.code pc = .ok (.iaload, 1)) (hn : pc + 1 = n) (g : Goes p e below s Q K N (T.setTop (mkF m n Ls (v :: rest)))) : Goes p e below s Q K N (T.setTop (mkF m pc Ls (.int j :: .ref a :: rest))) := by
  subst hn hi
  obtain ⟨cl, A, -, S, M, H, -⟩ := V
  exact g.via fun t k => X.iaload hx (by rw [eT]; exact A.1) (State.isArrayOf_alike hZ.alike A.2.1) A.2.2 (inb_of S hj) (Has.at H (inb_of S hj) hv) (g := mkF m pc Ls (.int j :: .ref a :: rest)) rfl rfl hd t k
theorem o_laload (X : Stand p l e R s m args below meth c T locs cells slots) (hx : p.tables.exec = Jvm.exec) (hZ : Z.Warmed39 s.vm) (eT : T.heap = h) {a : Addr} {k : ClassId} {z j : Int32} {vs : List Value} {dv v : Value} (V : Arv Z h a k .long z vs dv) (i : Nat) (hi : j.toNatClampNeg = i) (hj : ¬ j < 0 ∧ j < z) (hv : vs.getD i dv = v) (hd : decode c.code pc = .ok (.laload, 1)) (hn : pc + 1 = n) (g : Goes p e below s Q K N (T.setTop (mkF m n Ls (v :: rest)))) : Goes p e below s Q K N (T.setTop (mkF m pc Ls (.int j :: .ref a :: rest))) := by
  subst hn hi
  obtain ⟨cl, A, -, S, M, H, -⟩ := V
  exact g.via fun t k => X.laload hx (by rw [eT]; exact A.1) (State.isArrayOf_alike hZ.alike A.2.1) A.2.2 (inb_of S hj) (Has.at H (inb_of S hj) hv) (g := mkF m pc Ls (.int j :: .ref a :: rest)) rfl rfl hd t k
theorem o_baload (X : Stand p l e R s m args below meth c T locs cells slots) (hx : p.tables.exec = Jvm.exec) (hZ : Z.Warmed39 s.vm) (eT : T.heap = h) {a : Addr} {k : ClassId} {z j : Int32} {vs : List Value} {dv v : Value} (V : Arv Z h a k .byte z vs dv) (i : Nat) (hi : j.toNatClampNeg = i) (hj : ¬ j < 0 ∧ j < z) (hv : vs.getD i dv = v) (hd : decode c.code pc = .ok (.baload, 1)) (hn : pc + 1 = n) (g : Goes p e below s Q K N (T.setTop (mkF m n Ls (v :: rest)))) : Goes p e below s Q K N (T.setTop (mkF m pc Ls (.int j :: .ref a :: rest))) := by
  subst hn hi
  obtain ⟨cl, A, -, S, M, H, -⟩ := V
  exact g.via fun t k => X.baloadBytes hx (by rw [eT]; exact A.1) (State.isArrayOf_alike hZ.alike A.2.1) A.2.2 (inb_of S hj) (Has.at H (inb_of S hj) hv) (g := mkF m pc Ls (.int j :: .ref a :: rest)) rfl rfl hd t k
theorem o_baloadZ (X : Stand p l e R s m args below meth c T locs cells slots) (hx : p.tables.exec = Jvm.exec) (hZ : Z.Warmed39 s.vm) (eT : T.heap = h) {a : Addr} {k : ClassId} {z j : Int32} {vs : List Value} {dv v : Value} (V : Arv Z h a k .boolean z vs dv) (i : Nat) (hi : j.toNatClampNeg = i) (hj : ¬ j < 0 ∧ j < z) (hv : vs.getD i dv = v) (hd : decode c.code pc = .ok (.baload, 1)) (hn : pc + 1 = n) (g : Goes p e below s Q K N (T.setTop (mkF m n Ls (v :: rest)))) : Goes p e below s Q K N (T.setTop (mkF m pc Ls (.int j :: .ref a :: rest))) := by
  subst hn hi
  obtain ⟨cl, A, -, S, M, H, -⟩ := V
  exact g.via fun t k => X.baloadBooleans hx (by rw [eT]; exact A.1) (State.isArrayOf_alike hZ.alike A.2.1) A.2.2 (inb_of S hj) (Has.at H (inb_of S hj) hv) (g := mkF m pc Ls (.int j :: .ref a :: rest)) rfl rfl hd t k
theorem o_aaload (X : Stand p l e R s m args below meth c T locs cells slots) (hx : p.tables.exec = Jvm.exec) (hZ : Z.Warmed39 s.vm) (eT : T.heap = h) {a : Addr} {k : ClassId} {ty : FieldType} {z j : Int32} {vs : List Value} {dv v : Value} (V : Arv Z h a k ty z vs dv) (hty : ty.isReference = true) (i : Nat) (hi : j.toNatClampNeg = i) (hj : ¬ j < 0 ∧ j < z) (hv : vs.getD i dv = v) (hd : decode c.code pc = .ok (.aaload, 1)) (hn : pc + 1 = n) (g : Goes p e below s Q K N (T.setTop (mkF m n Ls (v :: rest)))) : Goes p e below s Q K N (T.setTop (mkF m pc Ls (.int j :: .ref a :: rest))) := by
  subst hn hi
  obtain ⟨cl, A, -, S, M, H, -⟩ := V
  exact g.via fun t k => X.aaload hx (by rw [eT]; exact A.1) (State.isArrayOf_alike hZ.alike A.2.1) hty A.2.2 (inb_of S hj) (Has.at H (inb_of S hj) hv) (g := mkF m pc Ls (.int j :: .ref a :: rest)) rfl rfl hd t k
theorem o_iastore (X : Stand p l e R s m args below meth c T locs cells slots) (hx : p.tables.exec = Jvm.exec) (hZ : Z.Warmed39 s.vm) (eT : T.heap = h) {a : Addr} {k : ClassId} {z j : Int32} {x : Int32} {vs vs' : List Value} {dv w : Value} (V : Arv Z h a k .int z vs dv) (i : Nat) (hi : j.toNatClampNeg = i) (hj : ¬ j < 0 ∧ j < z) (hlen : i < vs.length) (hw : (.int x) = w) (hvs : vs.set i w = vs') (hd : decode c.code pc = .ok (.iastore, 1)) (hn : pc + 1 = n)
    (g : ∀ T' h', Stand p l e R s m args below meth c T' (locs ++ [⟨a, j.toNatClampNeg⟩]) cells slots → T'.heap = h' → Wr h h' a j.toNatClampNeg w → Arv Z h' a k .int z vs' dv → Goes p e below s Q K N (T'.setTop (mkF m n Ls rest))) : Goes p e below s Q K N (T.setTop (mkF m pc Ls (.int x :: .int j :: .ref a :: rest))) := by
  subst hn hvs hw
  obtain ⟨cl, A, q1, S, M, H, G⟩ := V
  obtain ⟨T', h', X', e', W, st'⟩ := stI X hx hZ eT A (j := j) (inb_of S hj) (g := mkF m pc Ls (.int x :: .int j :: .ref a :: rest)) rfl rfl hd
  exact (g T' h' X' e' W (Arv.set A q1 S M H G rfl W i hi hlen)).via st'
theorem o_lastore (X : Stand p l e R s m args below meth c T locs cells slots) (hx : p.tables.exec = Jvm.exec) (hZ : Z.Warmed39 s.vm) (eT : T.heap = h) {a : Addr} {k : ClassId} {z j : Int32} {x : Int64} {vs vs' : List Value} {dv w : Value} (V : Arv Z h a k .long z vs dv) (i : Nat) (hi : j.toNatClampNeg = i) (hj : ¬ j < 0 ∧ j < z) (hlen : i < vs.length) (hw : (.long x) = w) (hvs : vs.set i w = vs') (hd : decode c.code pc = .ok (.lastore, 1)) (hn : pc + 1 = n)
    (g : ∀ T' h', Stand p l e R s m args below meth c T' (locs ++ [⟨a, j.toNatClampNeg⟩]) cells slots → T'.heap = h' → Wr h h' a j.toNatClampNeg w → Arv Z h' a k .long z vs' dv → Goes p e below s Q K N (T'.setTop (mkF m n Ls rest))) : Goes p e below s Q K N (T.setTop (mkF m pc Ls (.long x :: .int j :: .ref a :: rest))) := by
  subst hn hvs hw
  obtain ⟨cl, A, q1, S, M, H, G⟩ := V
  obtain ⟨T', h', X', e', W, st'⟩ := stJ X hx hZ eT A (j := j) (inb_of S hj) (g := mkF m pc Ls (.long x :: .int j :: .ref a :: rest)) rfl rfl hd
  exact (g T' h' X' e' W (Arv.set A q1 S M H G rfl W i hi hlen)).via st'
theorem o_bastore (X : Stand p l e R s m args below meth c T locs cells slots) (hx : p.tables.exec = Jvm.exec) (hZ : Z.Warmed39 s.vm) (eT : T.heap = h) {a : Addr} {k : ClassId} {z j : Int32} {x : Int32} {vs vs' : List Value} {dv w : Value} (V : Arv Z h a k .byte z vs dv) (i : Nat) (hi : j.toNatClampNeg = i) (hj : ¬ j < 0 ∧ j < z) (hlen : i < vs.length) (hw : (.int (nar .byte x)) = w) (hvs : vs.set i w = vs') (hd : decode c.code pc = .ok (.bastore, 1)) (hn : pc + 1 = n)
    (g : ∀ T' h', Stand p l e R s m args below meth c T' (locs ++ [⟨a, j.toNatClampNeg⟩]) cells slots → T'.heap = h' → Wr h h' a j.toNatClampNeg w → Arv Z h' a k .byte z vs' dv → Goes p e below s Q K N (T'.setTop (mkF m n Ls rest))) : Goes p e below s Q K N (T.setTop (mkF m pc Ls (.int x :: .int j :: .ref a :: rest))) := by
  subst hn hvs hw
  obtain ⟨cl, A, q1, S, M, H, G⟩ := V
  obtain ⟨T', h', X', e', W, st'⟩ := stB X hx hZ eT A (j := j) (inb_of S hj) (g := mkF m pc Ls (.int x :: .int j :: .ref a :: rest)) rfl rfl hd
  exact (g T' h' X' e' W (Arv.set A q1 S M H G (fits_nar_byte x) W i hi hlen)).via st'
theorem o_bastoreZ (X : Stand p l e R s m args below meth c T locs cells slots) (hx : p.tables.exec = Jvm.exec) (hZ : Z.Warmed39 s.vm) (eT : T.heap = h) {a : Addr} {k : ClassId} {z j : Int32} {x : Int32} {vs vs' : List Value} {dv w : Value} (V : Arv Z h a k .boolean z vs dv) (i : Nat) (hi : j.toNatClampNeg = i) (hj : ¬ j < 0 ∧ j < z) (hlen : i < vs.length) (hw : (.int (nar .boolean x)) = w) (hvs : vs.set i w = vs') (hd : decode c.code pc = .ok (.bastore, 1)) (hn : pc + 1 = n)
    (g : ∀ T' h', Stand p l e R s m args below meth c T' (locs ++ [⟨a, j.toNatClampNeg⟩]) cells slots → T'.heap = h' → Wr h h' a j.toNatClampNeg w → Arv Z h' a k .boolean z vs' dv → Goes p e below s Q K N (T'.setTop (mkF m n Ls rest))) : Goes p e below s Q K N (T.setTop (mkF m pc Ls (.int x :: .int j :: .ref a :: rest))) := by
  subst hn hvs hw
  obtain ⟨cl, A, q1, S, M, H, G⟩ := V
  obtain ⟨T', h', X', e', W, st'⟩ := stZ X hx hZ eT A (j := j) (inb_of S hj) (g := mkF m pc Ls (.int x :: .int j :: .ref a :: rest)) rfl rfl hd
  exact (g T' h' X' e' W (Arv.set A q1 S M H G (fits_nar_bool x) W i hi hlen)).via st'

/-! calls -/
theorem o_initO (X : Stand p l e R s m args below meth c T locs cells slots) (hx : p.tables.exec = Jvm.exec) (hZ : Z.Warmed39 s.vm) {own : String} {idx : Nat} (hown : s.vm.findClass own = some m.cls) (w1 : (Jvm.Cond.methodLink own idx Lib.objectInit).before a0 Z = true) (w2 : (Jvm.Cond.instanceMethod Lib.objectInit).before a0 Z = true) (w3 : (Jvm.Cond.code Lib.objectInit ⟨#[0xb1]⟩ 1 none).before a0 Z = true) (eT : T.heap = h) (hsize : Ls.size = c.maxLocals) {a : Addr} (hd : decode c.code pc = .ok (.invokespecial idx, 3)) (hf : 1 ≤ R.frames) (W : Nat) (hW : (rest.map fun v => v.category).sum ≤ W) (hl : W + 12 ≤ R.locals) (hn : pc + 3 = n)
    (k : ∀ T', Stand p l e R s m args below meth c T' locs cells slots → T'.heap = h → Goes p e below s Q K N (T'.setTop (mkF m n Ls rest))) : Goes p e below s Q K N (T.setTop (mkF m pc Ls (.ref a :: rest))) := by
  subst hn
  obtain ⟨T', X', e', st'⟩ := initO X hx hZ hown w1 w2 w3 eT (g := mkF m pc Ls (.ref a :: rest)) rfl hsize rfl hd hf (W := W) (by show 2 * 0 + _ ≤ _; omega) hl
  exact (k T' X' e').via st'
theorem o_callS (X : Stand p l e R s m args below meth c T locs cells slots) (hx : p.tables.exec = Jvm.exec) (hZ : Z.Warmed39 s.vm) {own : String} {index : Nat} {y : MethodName} {bytes : ByteArray} {maxL : Nat} {ret : Option FieldType} {rm : Room} (hown : s.vm.findClass own = some m.cls) (w1 : (Jvm.Cond.methodLink own index y).before a0 Z = true) (w2 : (Jvm.Cond.static y).before a0 Z = true) (w3 : (Jvm.Cond.initialized y.cls).before a0 Z = true) (w4 : (Jvm.Cond.code y bytes maxL ret).before a0 Z = true) (hy : y.cls ≠ "java/lang/invoke/MethodHandle" ∧ y.cls ≠ "java/lang/invoke/VarHandle") (eT : T.heap = h)
    {argsL rest : List Value} {Q' : Option Value → Heap → List Loc → Prop} (hM : Does l Z y bytes maxL ret [] rm argsL.toArray h Q') (W : Nat) (hf : rm.frames + 1 ≤ R.frames) (hl : W + (maxL + 11) + rm.locals ≤ R.locals) (hc : cells + rm.cells ≤ R.cells) (hs : slots + rm.slots ≤ R.slots) (hsize : Ls.size = c.maxLocals) (hlen : ∀ sig, parseMethodDescriptor y.desc = some sig → argsL.length = sig.parameters.length) (hst : st = argsL.reverse ++ rest) (hW : (rest.map fun v => v.category).sum ≤ W) (hd : decode c.code pc = .ok (.invokestatic index, 3)) (hn : pc + 3 = n)
    (k : ∀ v T' L', Stand p l e R s m args below meth c T' (locs ++ L') (cells + rm.cells) (slots + rm.slots) → Q' v T'.heap L' → Goes p e below s Q K N (T'.setTop (mkF m n Ls (v.toList ++ rest)))) : Goes p e below s Q K N (T.setTop (mkF m pc Ls st)) := by
  subst hn
  obtain ⟨v, _, ⟨T', L, kk, nn⟩, -, X', ⟨Lc, hQ, l', y', z'⟩, st'⟩ := Jvm.LawKit.callS X hx (y := y) hown (mvT hZ w1) (mvT hZ w2) (mvT hZ w3) (mvT hZ w4) hy (backOf (W := W) hM hZ w4 w3 hf hl) (g := mkF m pc Ls st) rfl hsize (argsL := argsL) (rest := rest) hlen hst (by show 2 * 0 + _ ≤ _; omega) hd (fun _ _ => ⟨rfl, eT, hc, hs⟩)
  dsimp only [Pt.U, Pt.locs, Pt.cells, Pt.slots] at X' l' y' z' st' hQ
  subst l' y' z'
  exact (k v T' Lc X' hQ).via st'
theorem o_callN (X : Stand p l e R s m args below meth c T locs cells slots) (hx : p.tables.exec = Jvm.exec) (hZ : Z.Warmed39 s.vm) {own : String} {index : Nat} {y : MethodName} {bytes : ByteArray} {maxL : Nat} {rm : Room} (hy1 : y.name = "<init>") (hown : s.vm.findClass own = some m.cls) (w1 : (Jvm.Cond.methodLink own index y).before a0 Z = true) (w2 : (Jvm.Cond.instanceMethod y).before a0 Z = true) (w3 : (Jvm.Cond.initialized y.cls).before a0 Z = true) (w4 : (Jvm.Cond.code y bytes maxL none).before a0 Z = true) (hy : y.cls ≠ "java/lang/invoke/MethodHandle" ∧ y.cls ≠ "java/lang/invoke/VarHandle") (eT : T.heap = h)
    {a : Addr} {argsL rest : List Value} {Q' : Option Value → Heap → List Loc → Prop} (hM : Does l Z y bytes maxL none [] rm (.ref a :: argsL).toArray h Q') (W : Nat) (hf : rm.frames + 1 ≤ R.frames) (hl : W + (maxL + 11) + rm.locals ≤ R.locals) (hc : cells + rm.cells ≤ R.cells) (hs : slots + rm.slots ≤ R.slots) (hsize : Ls.size = c.maxLocals) (hlen : ∀ sig, parseMethodDescriptor y.desc = some sig → argsL.length = sig.parameters.length) (hst : st = argsL.reverse ++ .ref a :: rest) (hW : (rest.map fun v => v.category).sum ≤ W) (hd : decode c.code pc = .ok (.invokespecial index, 3)) (hn : pc + 3 = n)
    (k : ∀ v T' L', Stand p l e R s m args below meth c T' (locs ++ L') (cells + rm.cells) (slots + rm.slots) → Q' v T'.heap L' → Goes p e below s Q K N (T'.setTop (mkF m n Ls (v.toList ++ rest)))) : Goes p e below s Q K N (T.setTop (mkF m pc Ls st)) := by
  subst hn
  obtain ⟨v, _, ⟨T', L, kk, nn⟩, -, X', ⟨Lc, hQ, l', y', z'⟩, st'⟩ := X.specialBack hx (y := y) hy1 hown (mvT hZ w1) (mvT hZ w2) (mvT hZ w4) hy (backOf (W := W) hM hZ w4 w3 hf hl) (g := mkF m pc Ls st) rfl hsize (Steps.refl _) (a := a) (argsL := argsL) (rest := rest) hlen hst (by show 2 * 0 + _ ≤ _; omega) hd (fun _ _ => ⟨rfl, eT, hc, hs⟩)
  dsimp only [Pt.U, Pt.locs, Pt.cells, Pt.slots] at X' l' y' z' st' hQ
  subst l' y' z'
  exact (k v T' Lc X' hQ).via fun t q => st'.trans q
theorem o_callV (X : Stand p l e R s m args below meth c T locs cells slots) (hx : p.tables.exec = Jvm.exec) (hZ : Z.Warmed39 s.vm) {own C : String} {index : Nat} {y : MethodName} {bytes : ByteArray} {maxL : Nat} {ret : Option FieldType} {rm : Room} (hown : s.vm.findClass own = some m.cls) (w1 : (Jvm.Cond.methodLink own index y).before a0 Z = true) (w2 : (Jvm.Cond.declares y).before a0 Z = true) (w5 : (Jvm.Cond.selects C y y).before a0 Z = true) (w6 : (Jvm.Cond.instanceMethod y).before a0 Z = true) (w3 : (Jvm.Cond.initialized y.cls).before a0 Z = true) (w4 : (Jvm.Cond.code y bytes maxL ret).before a0 Z = true) (hy : y.cls ≠ "java/lang/invoke/MethodHandle" ∧ y.cls ≠ "java/lang/invoke/VarHandle") (eT : T.heap = h)
    {a : Addr} (E : Exa Z h a C) {argsL rest : List Value} {Q' : Option Value → Heap → List Loc → Prop} (hM : Does l Z y bytes maxL ret [] rm (.ref a :: argsL).toArray h Q') (W : Nat) (hf : rm.frames + 1 ≤ R.frames) (hl : W + (maxL + 11) + rm.locals ≤ R.locals) (hc : cells + rm.cells ≤ R.cells) (hs : slots + rm.slots ≤ R.slots) (hsize : Ls.size = c.maxLocals) (hlen : ∀ sig, parseMethodDescriptor y.desc = some sig → argsL.length = sig.parameters.length) (hst : st = argsL.reverse ++ .ref a :: rest) (hW : (rest.map fun v => v.category).sum ≤ W) (hd : decode c.code pc = .ok (.invokevirtual index, 3)) (hn : pc + 3 = n)
    (k : ∀ v T' L', Stand p l e R s m args below meth c T' (locs ++ L') (cells + rm.cells) (slots + rm.slots) → Q' v T'.heap L' → Goes p e below s Q K N (T'.setTop (mkF m n Ls (v.toList ++ rest)))) : Goes p e below s Q K N (T.setTop (mkF m pc Ls st)) := by
  subst hn
  obtain ⟨cq, kq, qa, qb, qc⟩ := isOf hZ eT E
  obtain ⟨v, _, ⟨T', L, kk, nn⟩, -, X', ⟨Lc, hQ, l', y', z'⟩, st'⟩ := X.virtualBack hx (y := y) (z := y) hown (mvT hZ w1) (mvT hZ w2) (notFace_of_selects (args := #[]) (mvT hZ w5)) (mvT hZ w5) (mvT hZ w6) hy (backOf (W := W) hM hZ w4 w3 hf hl) qa qc (g := mkF m pc Ls st) rfl hsize (Steps.refl _) (argsL := argsL) (rest := rest) hlen hst (by show 2 * 0 + _ ≤ _; omega) hd (fun _ _ => ⟨rfl, eT, hc, hs⟩)
  dsimp only [Pt.U, Pt.locs, Pt.cells, Pt.slots] at X' l' y' z' st' hQ
  subst l' y' z'
  exact (k v T' Lc X' hQ).via fun t q => st'.trans q
/-- a private method is the one that is selected -/
theorem o_selpriv {y : MethodName} {kk : Nat} (hy : y.cls ≠ "java/lang/invoke/MethodHandle" ∧ y.cls ≠ "java/lang/invoke/VarHandle") (hins : (Jvm.Cond.instantiable y.cls kk).before args s = true) (hpriv : (Jvm.Cond.privateMethod y).before args s = true) (hinst : (Jvm.Cond.instanceMethod y).before args s = true) : (Jvm.Cond.selects y.cls y y).before args s = true := by
  obtain ⟨c, k, hc, hk, -, hniab, -, -⟩ := Cond.instantiable_spec hins
  have hni : k.isInterface = false := (Bool.or_eq_false_iff.mp hniab).1
  obtain ⟨mk, methM, hnamed, hmethM, -, -⟩ := Cond.instanceMethod_spec hinst
  have hfound : s.methodFound? y.cls y.name y.desc = some mk := State.methodFound?_of_named hnamed hy
  have hcls : mk.cls = c := Option.some.inj ((findClass_of_methodNamed hnamed).symm.trans hc)
  have hsel : selectMethod {} s.vm c mk = .method mk := selectMethod_private hmethM (Cond.privateMethod_at hpriv mk methM hnamed hmethM)
  simp only [Cond.before, Cond.holds, Cond.value, hc, hfound, hnamed, hsel, hcls, hk]
  simp; exact hni
theorem o_callP (X : Stand p l e R s m args below meth c T locs cells slots) (hx : p.tables.exec = Jvm.exec) (hZ : Z.Warmed39 s.vm) {own C : String} {index kk : Nat} {y : MethodName} {bytes : ByteArray} {maxL : Nat} {ret : Option FieldType} {rm : Room} (hown : s.vm.findClass own = some m.cls) (w1 : (Jvm.Cond.methodLink own index y).before a0 Z = true) (w6 : (Jvm.Cond.instanceMethod y).before a0 Z = true) (w5 : (Jvm.Cond.privateMethod y).before a0 Z = true) (wi : (Jvm.Cond.instantiable y.cls kk).before a0 Z = true) (w3 : (Jvm.Cond.initialized y.cls).before a0 Z = true) (w4 : (Jvm.Cond.code y bytes maxL ret).before a0 Z = true) (hy : y.cls ≠ "java/lang/invoke/MethodHandle" ∧ y.cls ≠ "java/lang/invoke/VarHandle") (eT : T.heap = h)
    {a : Addr} (E : Exa Z h a C) {argsL rest : List Value} {Q' : Option Value → Heap → List Loc → Prop} (hM : Does l Z y bytes maxL ret [] rm (.ref a :: argsL).toArray h Q') (W : Nat) (hf : rm.frames + 1 ≤ R.frames) (hl : W + (maxL + 11) + rm.locals ≤ R.locals) (hc : cells + rm.cells ≤ R.cells) (hs : slots + rm.slots ≤ R.slots) (hsize : Ls.size = c.maxLocals) (hlen : ∀ sig, parseMethodDescriptor y.desc = some sig → argsL.length = sig.parameters.length) (hst : st = argsL.reverse ++ .ref a :: rest) (hW : (rest.map fun v => v.category).sum ≤ W) (hd : decode c.code pc = .ok (.invokevirtual index, 3)) (hn : pc + 3 = n)
    (k : ∀ v T' L', Stand p l e R s m args below meth c T' (locs ++ L') (cells + rm.cells) (slots + rm.slots) → Q' v T'.heap L' → Goes p e below s Q K N (T'.setTop (mkF m n Ls (v.toList ++ rest)))) : Goes p e below s Q K N (T.setTop (mkF m pc Ls st)) := by
  subst hn
  obtain ⟨cl, hcl, hob⟩ := E.cell
  obtain ⟨v, _, ⟨T', L, kk, nn⟩, -, X', ⟨Lc, hQ, l', y', z'⟩, st'⟩ := X.privateBack hx (y := y) hown (mvT hZ w1) (mvT hZ w6) (o_selpriv hy (mvT hZ wi) (mvP hZ w5) (mvT hZ w6)) (Cond.privateMethod_at (mvP hZ w5 (args := #[]))) (mvT hZ w4) hy (backOf (W := W) hM hZ w4 w3 hf hl) (g := mkF m pc Ls st) rfl hsize (Steps.refl _) (a := a) (by rw [eT]; exact hcl) hob (argsL := argsL) (rest := rest) hlen hst (by show 2 * 0 + _ ≤ _; omega) hd (fun _ _ => ⟨rfl, eT, hc, hs⟩)
  dsimp only [Pt.U, Pt.locs, Pt.cells, Pt.slots] at X' l' y' z' st' hQ
  subst l' y' z'
  exact (k v T' Lc X' hQ).via fun t q => st'.trans q
/-! returns -/
theorem o_retW (X : Stand p l e R s m args below meth c T locs cells slots) (hx : p.tables.exec = Jvm.exec) {t : FieldType} {w : Value} {i : Instr} (hret : meth.sig.returnType = some t) (hlk : meth.locks = false) (hnw : narrow t w = w)
    (hi : (i = .ireturn ∧ (t = .int ∨ t = .boolean ∨ t = .byte ∨ t = .char ∨ t = .short) ∧ ∃ z, w = .int z) ∨ (i = .lreturn ∧ t = .long ∧ ∃ z, w = .long z) ∨ (i = .dreturn ∧ t = .double ∧ ∃ z, w = .double z) ∨ (i = .freturn ∧ t = .float ∧ ∃ z, w = .float z) ∨ (i = .areturn ∧ t.isReference = true ∧ w.isRef = true))
    (hd : decode c.code pc = .ok (i, 1)) (hc : cells ≤ K) (hs : slots ≤ N) (eT : T.heap = h) (hQ : Q (some w) h locs) : Goes p e below s Q K N (T.setTop (mkF m pc Ls (w :: rest))) := by
  subst eT
  obtain ⟨fs, hr, hrun, hended, hW, hsame⟩ := X.leave (v := some w) (fun q => by rw [hret] at q; cases q) hlk
  exact ⟨_, _, retOut X hx hret hnw hi hd hr, hrun, hended, _, _, rfl, hQ, ⟨_, rfl⟩, hW, hsame.mono hc hs⟩
theorem o_ireturn (X : Stand p l e R s m args below meth c T locs cells slots) (hx : p.tables.exec = Jvm.exec) {x : Int32} (hret : meth.sig.returnType = some .int) (hlk : meth.locks = false) (hd : decode c.code pc = .ok (.ireturn, 1)) (hc : cells ≤ K) (hs : slots ≤ N) (eT : T.heap = h) (hQ : Q (some (.int x)) h locs) : Goes p e below s Q K N (T.setTop (mkF m pc Ls (.int x :: rest))) := o_retW X hx hret hlk rfl (Or.inl ⟨rfl, Or.inl rfl, x, rfl⟩) hd hc hs eT hQ
theorem o_lreturn (X : Stand p l e R s m args below meth c T locs cells slots) (hx : p.tables.exec = Jvm.exec) {x : Int64} (hret : meth.sig.returnType = some .long) (hlk : meth.locks = false) (hd : decode c.code pc = .ok (.lreturn, 1)) (hc : cells ≤ K) (hs : slots ≤ N) (eT : T.heap = h) (hQ : Q (some (.long x)) h locs) : Goes p e below s Q K N (T.setTop (mkF m pc Ls (.long x :: rest))) := o_retW X hx hret hlk rfl (Or.inr (Or.inl ⟨rfl, rfl, x, rfl⟩)) hd hc hs eT hQ
theorem o_areturn (X : Stand p l e R s m args below meth c T locs cells slots) (hx : p.tables.exec = Jvm.exec) {t : FieldType} {w : Value} (hret : meth.sig.returnType = some t) (hlk : meth.locks = false) (ht : t.isReference = true) (hw : w.isRef = true) (hd : decode c.code pc = .ok (.areturn, 1)) (hc : cells ≤ K) (hs : slots ≤ N) (eT : T.heap = h) (hQ : Q (some w) h locs) : Goes p e below s Q K N (T.setTop (mkF m pc Ls (w :: rest))) := o_retW X hx hret hlk (by cases t <;> first | rfl | cases ht) (Or.inr (Or.inr (Or.inr (Or.inr ⟨rfl, ht, hw⟩)))) hd hc hs eT hQ
/-- a boolean, byte, char or short: narrowed -/
theorem o_nreturn (X : Stand p l e R s m args below meth c T locs cells slots) (hx : p.tables.exec = Jvm.exec) {t : FieldType} {x : Int32} (hret : meth.sig.returnType = some t) (hlk : meth.locks = false) (ht : t = .boolean ∨ t = .byte ∨ t = .char ∨ t = .short) (hd : decode c.code pc = .ok (.ireturn, 1)) (hc : cells ≤ K) (hs : slots ≤ N) (eT : T.heap = h) (hQ : Q (some (.int (nar t x))) h locs) : Goes p e below s Q K N (T.setTop (mkF m pc Ls (.int x :: rest))) := by
  subst eT
  obtain ⟨fs, hr, hrun, hended, hW, hsame⟩ := X.leave (v := some (.int (nar t x))) (fun q => by rw [hret] at q; cases q) hlk
  exact ⟨_, _, retN X hx hret ht hd hr, hrun, hended, _, _, rfl, hQ, ⟨_, rfl⟩, hW, hsame.mono hc hs⟩
theorem o_return (X : Stand p l e R s m args below meth c T locs cells slots) (hx : p.tables.exec = Jvm.exec) (hret : meth.sig.returnType = none) (hlk : meth.locks = false) (hd : decode c.code pc = .ok (.return_, 1)) (hc : cells ≤ K) (hs : slots ≤ N) (eT : T.heap = h) (hQ : Q none h locs) : Goes p e below s Q K N (T.setTop (mkF m pc Ls [])) := by
  subst eT
  obtain ⟨fs, hr, hrun, hended, hW, hsame⟩ := X.leave (v := none) (fun _ => rfl) hlk
  exact ⟨_, _, X.returnOut hx hret hd hr, hrun, hended, _, _, rfl, hQ, ⟨_, rfl⟩, hW, hsame.mono hc hs⟩
/-- what a call that writes nothing promises -/
def Pur (h0 : Heap) (w : Value) (v : Option Value) (h : Heap) (L : List Loc) : Prop := v = some w ∧ h = h0 ∧ L = []
end Layer

theorem o_nz1 : nar .boolean (1 : Int32) = 1 := by decide
theorem o_nz0 : nar .boolean (0 : Int32) = 0 := by decide
theorem o_nar8 (x : Int32) : nar .byte x.toInt8.toInt32 = x.toInt8.toInt32 := by simp [nar]

theorem o_sta_keep {Z : State} {h h' : Heap} {C n d : String} {v : Value} {ws : List Addr} (F : Sta Z h C n d v) (K : Keep h h' ws) (q : ∀ a ∈ ws, ∀ cl : Cell, h[a]? = some cl → cl.vm.isStatics = false) : Sta Z h' C n d v := by
  obtain ⟨cf, i, k, f, st, cell, h1, h2, h3, h4, h5, h6, h7⟩ := F
  refine ⟨cf, i, k, f, st, cell, h1, h2, h3, h4, K.2.1 st cell h5 (fun z => ?_), h6, h7⟩
  have := q st z cell h5
  rw [h6] at this; cases this
theorem o_exa_ns {Z : State} {h : Heap} {a : Addr} {C : String} (E : Exa Z h a C) : ∀ cl : Cell, h[a]? = some cl → cl.vm.isStatics = false := fun cl hc => by
  obtain ⟨c1, k, h1, -, -, h4, -⟩ := E
  cases h1.symm.trans hc; exact h4
theorem o_arv_ns {Z : State} {h : Heap} {a : Addr} {k : ClassId} {ty : FieldType} {z : Int32} {vs : List Value} {dv : Value} (V : Arv Z h a k ty z vs dv) : ∀ cl : Cell, h[a]? = some cl → cl.vm.isStatics = false := fun cl hc => by
  obtain ⟨c1, A, -⟩ := V
  cases A.1.symm.trans hc; exact A.plain

def o_max (a b : Int64) : Int64 := if a < b then b else a
def o_adm (a b : Int64) : Int32 := if 0 < a then 1 else if 0 < b then 1 else 0
theorem o_a1 {a b : Int64} (h : 0 < o_max a b) : o_adm a b = 1 := by
  unfold o_max at h
  unfold o_adm
  split at h
  · simp [h]
  · simp [h]
theorem o_a0 {a b : Int64} (h : ¬ 0 < o_max a b) : o_adm a b = 0 := by
  have p : ¬ 0 < a ∧ ¬ 0 < b := by
    unfold o_max at h
    split at h
    · rename_i q
      refine ⟨fun z => h ?_, h⟩
      rw [Int64.lt_iff_toInt_lt] at *
      omega
    · rename_i q
      refine ⟨h, fun z => h ?_⟩
      rw [Int64.lt_iff_toInt_lt] at *
      omega
  simp [o_adm, p.1, p.2]

theorem d_jdk_30_method_1_code_0 : decode jdk_30_method_1_code 0 = .ok (.aload_n 0, 1) := by decide +kernel
theorem d_jdk_30_method_1_code_1 : decode jdk_30_method_1_code 1 = .ok (.invokespecial 1, 3) := by decide +kernel
theorem d_jdk_30_method_1_code_4 : decode jdk_30_method_1_code 4 = .ok (.return_, 1) := by decide +kernel
theorem o_ef1 (m : MethodId) (a1 : Addr) : entryFrame m #[(.ref a1)] 1 = mkF m 0 #[.val (.ref a1)] [] := by first | (simp [entryFrame, mkF, argsToLocals, Value.category]; done) | rfl
theorem o_pn0 : plainName "java/lang/Record" = true := by first | (simp [plainName, overriddenIn]; done) | decide +kernel
set_option maxRecDepth 65536 in
set_option maxHeartbeats 40000000 in
theorem c_record (l : Launch) (Z : State) (a0 : Array Value) (hw : ∀ d ∈ tables_1, d.before a0 Z = true) (a1 : Addr) (h0 : Heap) :
    Does l Z (⟨"java/lang/Record", "<init>", "()V"⟩ : MethodName) jdk_30_method_1_code 1 none [] ({ frames := 1, cells := 0, slots := 0, locals := 12 } : Room) #[(.ref a1)] h0 (fun v h L => v = none ∧ h = h0 ∧ L = []) := by
  refine Does.of (plainFor_of_name o_pn0) ?_
  intro p e s m below meth c T0 hx hby hml hown hnm hret hlk hZ X0 e0
  have hown : s.vm.findClass "java/lang/Record" = some m.cls := hown
  have hml : c.maxLocals = 1 := hml
  have hret : meth.sig.returnType = none := hret
  refine o_entry (o_ef1 m a1) ?_
  refine o_aloadN X0 hx (hb hby d_jdk_30_method_1_code_0) (v := (.ref a1)) rfl rfl (n := 1) rfl ?_
  refine o_initO X0 hx hZ hown (hw _ (List.mem_of_getElem? (i := 11) rfl)) (hw _ (List.mem_of_getElem? (i := 12) rfl)) (hw _ (List.mem_of_getElem? (i := 13) rfl)) e0 (by rw [hml]; rfl) (hb hby d_jdk_30_method_1_code_1) (by decide) 0 (Nat.le_of_eq rfl) (by decide) (n := 4) rfl ?_
  intro T1 X1 e1
  exact o_return X1 hx hret hlk (hb hby d_jdk_30_method_1_code_4) (by decide) (by decide) e1 ⟨rfl, rfl, rfl⟩
theorem d_jdk_22_method_1_code_0 : decode jdk_22_method_1_code 0 = .ok (.aload_n 0, 1) := by decide +kernel
theorem d_jdk_22_method_1_code_1 : decode jdk_22_method_1_code 1 = .ok (.invokespecial 1, 3) := by decide +kernel
theorem d_jdk_22_method_1_code_4 : decode jdk_22_method_1_code 4 = .ok (.return_, 1) := by decide +kernel
theorem o_ef2 (m : MethodId) (a1 : Addr) : entryFrame m #[(.ref a1)] 1 = mkF m 0 #[.val (.ref a1)] [] := by first | (simp [entryFrame, mkF, argsToLocals, Value.category]; done) | rfl
theorem o_pn1 : plainName "java/util/AbstractCollection" = true := by first | (simp [plainName, overriddenIn]; done) | decide +kernel
set_option maxRecDepth 65536 in
set_option maxHeartbeats 40000000 in
theorem c_acoll (l : Launch) (Z : State) (a0 : Array Value) (hw : ∀ d ∈ tables_1, d.before a0 Z = true) (a1 : Addr) (h0 : Heap) :
    Does l Z (⟨"java/util/AbstractCollection", "<init>", "()V"⟩ : MethodName) jdk_22_method_1_code 1 none [] ({ frames := 1, cells := 0, slots := 0, locals := 12 } : Room) #[(.ref a1)] h0 (fun v h L => v = none ∧ h = h0 ∧ L = []) := by
  refine Does.of (plainFor_of_name o_pn1) ?_
  intro p e s m below meth c T0 hx hby hml hown hnm hret hlk hZ X0 e0
  have hown : s.vm.findClass "java/util/AbstractCollection" = some m.cls := hown
  have hml : c.maxLocals = 1 := hml
  have hret : meth.sig.returnType = none := hret
  refine o_entry (o_ef2 m a1) ?_
  refine o_aloadN X0 hx (hb hby d_jdk_22_method_1_code_0) (v := (.ref a1)) rfl rfl (n := 1) rfl ?_
  refine o_initO X0 hx hZ hown (hw _ (List.mem_of_getElem? (i := 39) rfl)) (hw _ (List.mem_of_getElem? (i := 12) rfl)) (hw _ (List.mem_of_getElem? (i := 13) rfl)) e0 (by rw [hml]; rfl) (hb hby d_jdk_22_method_1_code_1) (by decide) 0 (Nat.le_of_eq rfl) (by decide) (n := 4) rfl ?_
  intro T1 X1 e1
  exact o_return X1 hx hret hlk (hb hby d_jdk_22_method_1_code_4) (by decide) (by decide) e1 ⟨rfl, rfl, rfl⟩
theorem d_jdk_39_method_1_code_0 : decode jdk_39_method_1_code 0 = .ok (.aload_n 0, 1) := by decide +kernel
theorem d_jdk_39_method_1_code_1 : decode jdk_39_method_1_code 1 = .ok (.invokespecial 1, 3) := by decide +kernel
theorem o_pd0 : parseMethodDescriptor "()V" = some ⟨[], none⟩ := by decide +kernel
theorem d_jdk_39_method_1_code_4 : decode jdk_39_method_1_code 4 = .ok (.aload_n 0, 1) := by decide +kernel
theorem d_jdk_39_method_1_code_5 : decode jdk_39_method_1_code 5 = .ok (.iconst 0, 1) := by decide +kernel
theorem d_jdk_39_method_1_code_6 : decode jdk_39_method_1_code 6 = .ok (.putfield 7, 3) := by decide +kernel
theorem d_jdk_39_method_1_code_9 : decode jdk_39_method_1_code 9 = .ok (.return_, 1) := by decide +kernel
theorem o_ef3 (m : MethodId) (a1 : Addr) : entryFrame m #[(.ref a1)] 1 = mkF m 0 #[.val (.ref a1)] [] := by first | (simp [entryFrame, mkF, argsToLocals, Value.category]; done) | rfl
theorem o_pn2 : plainName "java/util/AbstractList" = true := by first | (simp [plainName, overriddenIn]; done) | decide +kernel
set_option maxRecDepth 65536 in
set_option maxHeartbeats 40000000 in
theorem c_alist (l : Launch) (Z : State) (a0 : Array Value) (hw : ∀ d ∈ tables_1, d.before a0 Z = true) (a1 : Addr) (h0 : Heap) (n0 : Nat) (Z0 : n0 ≤ h0.size) (pg_a1 : n0 ≤ a1) (pE_a1 : Exa Z h0 a1 "java/util/ArrayList") (pF_a1_modCount : Fld Z h0 a1 "java/util/AbstractList" "modCount" "I" (.int (0 : Int32))) (pF_a1_elementData : Fld Z h0 a1 "java/util/ArrayList" "elementData" "[Ljava/lang/Object;" .null) :
    Does l Z (⟨"java/util/AbstractList", "<init>", "()V"⟩ : MethodName) jdk_39_method_1_code 1 none [] ({ frames := 2, cells := 0, slots := 0, locals := 24 } : Room) #[(.ref a1)] h0 (fun v h L => v = none ∧ Fr n0 L ∧ Keep h0 h [a1] ∧ Exa Z h a1 "java/util/ArrayList" ∧ Fld Z h a1 "java/util/AbstractList" "modCount" "I" (.int (0 : Int32)) ∧ Fld Z h a1 "java/util/ArrayList" "elementData" "[Ljava/lang/Object;" .null) := by
  refine Does.of (plainFor_of_name o_pn2) ?_
  intro p e s m below meth c T0 hx hby hml hown hnm hret hlk hZ X0 e0
  have hown : s.vm.findClass "java/util/AbstractList" = some m.cls := hown
  have hml : c.maxLocals = 1 := hml
  have hret : meth.sig.returnType = none := hret
  refine o_entry (o_ef3 m a1) ?_
  have N0 := Fr.nil n0
  refine o_aloadN X0 hx (hb hby d_jdk_39_method_1_code_0) (v := (.ref a1)) rfl rfl (n := 1) rfl ?_
  refine o_callN X0 hx hZ rfl hown (hw _ (List.mem_of_getElem? (i := 33) rfl)) (hw _ (List.mem_of_getElem? (i := 34) rfl)) (hw _ (List.mem_of_getElem? (i := 37) rfl)) (hw _ (List.mem_of_getElem? (i := 38) rfl)) (by decide) e0 (a := a1) (argsL := []) (rest := []) (c_acoll l Z a0 hw a1 h0) 0 (by decide) (by decide) (by decide) (by decide) (by rw [hml]; rfl) (lenOf o_pd0 rfl) rfl (Nat.le_of_eq rfl) (hb hby d_jdk_39_method_1_code_1) (n := 4) rfl ?_
  intro v1 T1 L1 X1 q1
  obtain ⟨rfl, e1, rfl⟩ := q1
  have N2 := Fr.app N0 (Fr.nil n0)
  show Goes p e below s _ _ _ (T1.setTop (mkF m 4 #[.val (.ref a1)] []))
  refine o_aloadN X1 hx (hb hby d_jdk_39_method_1_code_4) (v := (.ref a1)) rfl rfl (n := 5) rfl ?_
  refine o_iconst X1 hx (hb hby d_jdk_39_method_1_code_5) (v := (0 : Int32)) rfl (n := 6) rfl ?_
  refine o_putfield X1 hx hZ hown (host := "") (Or.inl (hw _ (List.mem_of_getElem? (i := 40) rfl))) Via.refl e1 pF_a1_modCount pE_a1 (Or.inl (hw _ (List.mem_of_getElem? (i := 41) rfl))) (hw _ (List.mem_of_getElem? (i := 22) rfl)) (ty := .int) (by decide) rfl rfl (hb hby d_jdk_39_method_1_code_6) (n := 9) rfl ?_
  intro T3 h3 X3 e3 W3 F3 E_3
  have f4 := pF_a1_elementData.other W3 (Or.inr (slot_ne (Or.inl (hw _ (List.mem_of_getElem? (i := 44) rfl))) (Or.inl (hw _ (List.mem_of_getElem? (i := 41) rfl))) (by decide) (t := (.array (.object "java/lang/Object"))) (t' := .int) (by decide) (by decide)))
  have zz3 : n0 ≤ h3.size := Nat.le_trans Z0 (Nat.le_of_eq W3.size.symm)
  have N5 := Fr.snoc X3 N2 pg_a1
  have K6 : Keep h0 h3 [a1] := (Keep.refl h0 [a1]).wr W3 (Or.inl (List.mem_of_getElem? (i := 0) rfl))
  exact o_return X3 hx hret hlk (hb hby d_jdk_39_method_1_code_9) (by decide) (by decide) e3 ⟨rfl, N5, K6, E_3, F3, f4⟩
theorem d_jdk_38_method_2_code_0 : decode jdk_38_method_2_code 0 = .ok (.aload_n 0, 1) := by decide +kernel
theorem d_jdk_38_method_2_code_1 : decode jdk_38_method_2_code 1 = .ok (.invokespecial 1, 3) := by decide +kernel
theorem d_jdk_38_method_2_code_4 : decode jdk_38_method_2_code 4 = .ok (.aload_n 0, 1) := by decide +kernel
theorem d_jdk_38_method_2_code_5 : decode jdk_38_method_2_code 5 = .ok (.getstatic 39, 3) := by decide +kernel
theorem d_jdk_38_method_2_code_8 : decode jdk_38_method_2_code 8 = .ok (.putfield 9, 3) := by decide +kernel
theorem d_jdk_38_method_2_code_11 : decode jdk_38_method_2_code 11 = .ok (.return_, 1) := by decide +kernel
theorem o_ef4 (m : MethodId) (a1 : Addr) : entryFrame m #[(.ref a1)] 1 = mkF m 0 #[.val (.ref a1)] [] := by first | (simp [entryFrame, mkF, argsToLocals, Value.category]; done) | rfl
theorem o_pn3 : plainName "java/util/ArrayList" = true := by first | (simp [plainName, overriddenIn]; done) | decide +kernel
set_option maxRecDepth 65536 in
set_option maxHeartbeats 40000000 in
theorem c_list (l : Launch) (Z : State) (a0 : Array Value) (hw : ∀ d ∈ tables_1, d.before a0 Z = true) (a1 : Addr) (d0 : Addr) (h0 : Heap) (n0 : Nat) (Z0 : n0 ≤ h0.size) (pg_a1 : n0 ≤ a1) (pE_a1 : Exa Z h0 a1 "java/util/ArrayList") (pF_a1_modCount : Fld Z h0 a1 "java/util/AbstractList" "modCount" "I" (.int (0 : Int32))) (pF_a1_elementData : Fld Z h0 a1 "java/util/ArrayList" "elementData" "[Ljava/lang/Object;" .null) (pS_DEFAULTCAPACITY_EMPTY_ELEMENTDATA : Sta Z h0 "java/util/ArrayList" "DEFAULTCAPACITY_EMPTY_ELEMENTDATA" "[Ljava/lang/Object;" (.ref d0)) :
    Does l Z (⟨"java/util/ArrayList", "<init>", "()V"⟩ : MethodName) jdk_38_method_2_code 1 none [] ({ frames := 3, cells := 0, slots := 0, locals := 36 } : Room) #[(.ref a1)] h0 (fun v h L => v = none ∧ Fr n0 L ∧ Keep h0 h [a1] ∧ Exa Z h a1 "java/util/ArrayList") := by
  refine Does.of (plainFor_of_name o_pn3) ?_
  intro p e s m below meth c T0 hx hby hml hown hnm hret hlk hZ X0 e0
  have hown : s.vm.findClass "java/util/ArrayList" = some m.cls := hown
  have hml : c.maxLocals = 1 := hml
  have hret : meth.sig.returnType = none := hret
  refine o_entry (o_ef4 m a1) ?_
  have N0 := Fr.nil n0
  refine o_aloadN X0 hx (hb hby d_jdk_38_method_2_code_0) (v := (.ref a1)) rfl rfl (n := 1) rfl ?_
  refine o_callN X0 hx hZ rfl hown (hw _ (List.mem_of_getElem? (i := 27) rfl)) (hw _ (List.mem_of_getElem? (i := 28) rfl)) (hw _ (List.mem_of_getElem? (i := 31) rfl)) (hw _ (List.mem_of_getElem? (i := 32) rfl)) (by decide) e0 (a := a1) (argsL := []) (rest := []) (c_alist l Z a0 hw a1 h0 n0 Z0 pg_a1 pE_a1 pF_a1_modCount pF_a1_elementData) 0 (by decide) (by decide) (by decide) (by decide) (by rw [hml]; rfl) (lenOf o_pd0 rfl) rfl (Nat.le_of_eq rfl) (hb hby d_jdk_38_method_2_code_1) (n := 4) rfl ?_
  intro v1 T1 L1 X1 q1
  obtain ⟨rfl, Nq1, K1, o1_0, o1_1, o1_2⟩ := q1
  have N2 := Fr.app N0 Nq1
  have f3 := pE_a1.keep K1
  have f6 := o_sta_keep pS_DEFAULTCAPACITY_EMPTY_ELEMENTDATA K1 (allS (P := fun a => ∀ cl : Cell, h0[a]? = some cl → cl.vm.isStatics = false) (o_exa_ns pE_a1) all0)
  have zz1 : n0 ≤ T1.heap.size := Nat.le_trans Z0 K1.1
  have K7 : Keep h0 T1.heap [a1] := (Keep.refl h0 [a1]).trans K1 (allS (P := fun x => x ∈ [a1] ∨ h0.size ≤ x) (Or.inl (List.mem_of_getElem? (i := 0) rfl)) all0)
  show Goes p e below s _ _ _ (T1.setTop (mkF m 4 #[.val (.ref a1)] []))
  refine o_aloadN X1 hx (hb hby d_jdk_38_method_2_code_4) (v := (.ref a1)) rfl rfl (n := 5) rfl ?_
  refine o_getstatic X1 hx hZ hown (host := "") (Or.inl (hw _ (List.mem_of_getElem? (i := 42) rfl))) Via.refl (rfl : T1.heap = T1.heap) f6 (hb hby d_jdk_38_method_2_code_5) (n := 8) rfl ?_
  intro T8 X8 e8
  refine o_putfield X8 hx hZ hown (host := "") (Or.inl (hw _ (List.mem_of_getElem? (i := 43) rfl))) Via.refl e8 o1_2 o1_0 (Or.inl (hw _ (List.mem_of_getElem? (i := 44) rfl))) (hw _ (List.mem_of_getElem? (i := 22) rfl)) (ty := (.array (.object "java/lang/Object"))) (by decide) rfl rfl (hb hby d_jdk_38_method_2_code_8) (n := 11) rfl ?_
  intro T9 h9 X9 e9 W9 F9 E_9
  have f10 := f6.wr W9
  have f11 := o1_1.other W9 (Or.inr (slot_ne (Or.inl (hw _ (List.mem_of_getElem? (i := 41) rfl))) (Or.inl (hw _ (List.mem_of_getElem? (i := 44) rfl))) (by decide) (t := .int) (t' := (.array (.object "java/lang/Object"))) (by decide) (by decide)))
  have zz9 : n0 ≤ h9.size := Nat.le_trans zz1 (Nat.le_of_eq W9.size.symm)
  have N12 := Fr.snoc X9 N2 pg_a1
  have K13 : Keep h0 h9 [a1] := K7.wr W9 (Or.inl (List.mem_of_getElem? (i := 0) rfl))
  exact o_return X9 hx hret hlk (hb hby d_jdk_38_method_2_code_11) (by decide) (by decide) e9 ⟨rfl, N12, K13, E_9⟩
theorem d_prog_42_method_1_code_0 : decode prog_42_method_1_code 0 = .ok (.aload_n 0, 1) := by decide +kernel
theorem d_prog_42_method_1_code_1 : decode prog_42_method_1_code 1 = .ok (.invokespecial 1, 3) := by decide +kernel
theorem d_prog_42_method_1_code_4 : decode prog_42_method_1_code 4 = .ok (.aload_n 0, 1) := by decide +kernel
theorem d_prog_42_method_1_code_5 : decode prog_42_method_1_code 5 = .ok (.lload_n 1, 1) := by decide +kernel
theorem d_prog_42_method_1_code_6 : decode prog_42_method_1_code 6 = .ok (.putfield 7, 3) := by decide +kernel
theorem d_prog_42_method_1_code_9 : decode prog_42_method_1_code 9 = .ok (.aload_n 0, 1) := by decide +kernel
theorem d_prog_42_method_1_code_10 : decode prog_42_method_1_code 10 = .ok (.lload_n 3, 1) := by decide +kernel
theorem d_prog_42_method_1_code_11 : decode prog_42_method_1_code 11 = .ok (.putfield 13, 3) := by decide +kernel
theorem d_prog_42_method_1_code_14 : decode prog_42_method_1_code 14 = .ok (.return_, 1) := by decide +kernel
theorem o_ef5 (m : MethodId) (a1 : Addr) (p0 : Int64) (p1 : Int64) : entryFrame m #[(.ref a1), (.long p0), (.long p1)] 5 = mkF m 0 #[.val (.ref a1), .val (.long p0), .second, .val (.long p1), .second] [] := by first | (simp [entryFrame, mkF, argsToLocals, Value.category]; done) | rfl
theorem o_pn4 : plainName "com/example/overbook_guard/overbookguard/pool/Booked" = true := by first | (simp [plainName, overriddenIn]; done) | decide +kernel
set_option maxRecDepth 65536 in
set_option maxHeartbeats 40000000 in
theorem c_booked (l : Launch) (Z : State) (a0 : Array Value) (hw : ∀ d ∈ tables_1, d.before a0 Z = true) (a1 : Addr) (p0 : Int64) (p1 : Int64) (h0 : Heap) (n0 : Nat) (Z0 : n0 ≤ h0.size) (pg_a1 : n0 ≤ a1) (pE_a1 : Exa Z h0 a1 "com/example/overbook_guard/overbookguard/pool/Booked") (pF_a1_cores : Fld Z h0 a1 "com/example/overbook_guard/overbookguard/pool/Booked" "cores" "J" (.long (0 : Int64))) (pF_a1_gpus : Fld Z h0 a1 "com/example/overbook_guard/overbookguard/pool/Booked" "gpus" "J" (.long (0 : Int64))) :
    Does l Z (⟨"com/example/overbook_guard/overbookguard/pool/Booked", "<init>", "(JJ)V"⟩ : MethodName) prog_42_method_1_code 5 none [] ({ frames := 2, cells := 0, slots := 0, locals := 24 } : Room) #[(.ref a1), (.long p0), (.long p1)] h0 (fun v h L => v = none ∧ Fr n0 L ∧ Keep h0 h [a1] ∧ Exa Z h a1 "com/example/overbook_guard/overbookguard/pool/Booked" ∧ Fld Z h a1 "com/example/overbook_guard/overbookguard/pool/Booked" "cores" "J" (.long p0) ∧ Fld Z h a1 "com/example/overbook_guard/overbookguard/pool/Booked" "gpus" "J" (.long p1)) := by
  refine Does.of (plainFor_of_name o_pn4) ?_
  intro p e s m below meth c T0 hx hby hml hown hnm hret hlk hZ X0 e0
  have hown : s.vm.findClass "com/example/overbook_guard/overbookguard/pool/Booked" = some m.cls := hown
  have hml : c.maxLocals = 5 := hml
  have hret : meth.sig.returnType = none := hret
  refine o_entry (o_ef5 m a1 p0 p1) ?_
  have N0 := Fr.nil n0
  refine o_aloadN X0 hx (hb hby d_prog_42_method_1_code_0) (v := (.ref a1)) rfl rfl (n := 1) rfl ?_
  refine o_callN X0 hx hZ rfl hown (hw _ (List.mem_of_getElem? (i := 6) rfl)) (hw _ (List.mem_of_getElem? (i := 7) rfl)) (hw _ (List.mem_of_getElem? (i := 9) rfl)) (hw _ (List.mem_of_getElem? (i := 10) rfl)) (by decide) e0 (a := a1) (argsL := []) (rest := []) (c_record l Z a0 hw a1 h0) 0 (by decide) (by decide) (by decide) (by decide) (by rw [hml]; rfl) (lenOf o_pd0 rfl) rfl (Nat.le_of_eq rfl) (hb hby d_prog_42_method_1_code_1) (n := 4) rfl ?_
  intro v1 T1 L1 X1 q1
  obtain ⟨rfl, e1, rfl⟩ := q1
  have N2 := Fr.app N0 (Fr.nil n0)
  show Goes p e below s _ _ _ (T1.setTop (mkF m 4 #[.val (.ref a1), .val (.long p0), .second, .val (.long p1), .second] []))
  refine o_aloadN X1 hx (hb hby d_prog_42_method_1_code_4) (v := (.ref a1)) rfl rfl (n := 5) rfl ?_
  refine o_lloadN X1 hx (hb hby d_prog_42_method_1_code_5) (v := p0) rfl (n := 6) rfl ?_
  refine o_putfield X1 hx hZ hown (host := "") (Or.inl (hw _ (List.mem_of_getElem? (i := 14) rfl))) Via.refl e1 pF_a1_cores pE_a1 (Or.inr ⟨(hw _ (List.mem_of_getElem? (i := 15) rfl)), rfl, hnm⟩) (hw _ (List.mem_of_getElem? (i := 1) rfl)) (ty := .long) (by decide) rfl rfl (hb hby d_prog_42_method_1_code_6) (n := 9) rfl ?_
  intro T3 h3 X3 e3 W3 F3 E_3
  have f4 := pF_a1_gpus.other W3 (Or.inr (slot_ne (Or.inr (hw _ (List.mem_of_getElem? (i := 17) rfl))) (Or.inr (hw _ (List.mem_of_getElem? (i := 15) rfl))) (by decide) (t := .long) (t' := .long) (by decide) (by decide)))
  have zz3 : n0 ≤ h3.size := Nat.le_trans Z0 (Nat.le_of_eq W3.size.symm)
  have N5 := Fr.snoc X3 N2 pg_a1
  have K6 : Keep h0 h3 [a1] := (Keep.refl h0 [a1]).wr W3 (Or.inl (List.mem_of_getElem? (i := 0) rfl))
  refine o_aloadN X3 hx (hb hby d_prog_42_method_1_code_9) (v := (.ref a1)) rfl rfl (n := 10) rfl ?_
  refine o_lloadN X3 hx (hb hby d_prog_42_method_1_code_10) (v := p1) rfl (n := 11) rfl ?_
  refine o_putfield X3 hx hZ hown (host := "") (Or.inl (hw _ (List.mem_of_getElem? (i := 16) rfl))) Via.refl e3 f4 E_3 (Or.inr ⟨(hw _ (List.mem_of_getElem? (i := 17) rfl)), rfl, hnm⟩) (hw _ (List.mem_of_getElem? (i := 1) rfl)) (ty := .long) (by decide) rfl rfl (hb hby d_prog_42_method_1_code_11) (n := 14) rfl ?_
  intro T7 h7 X7 e7 W7 F7 E_7
  have f8 := F3.other W7 (Or.inr (slot_ne (Or.inr (hw _ (List.mem_of_getElem? (i := 15) rfl))) (Or.inr (hw _ (List.mem_of_getElem? (i := 17) rfl))) (by decide) (t := .long) (t' := .long) (by decide) (by decide)))
  have zz7 : n0 ≤ h7.size := Nat.le_trans zz3 (Nat.le_of_eq W7.size.symm)
  have N9 := Fr.snoc X7 N5 pg_a1
  have K10 : Keep h0 h7 [a1] := K6.wr W7 (Or.inl (List.mem_of_getElem? (i := 0) rfl))
  exact o_return X7 hx hret hlk (hb hby d_prog_42_method_1_code_14) (by decide) (by decide) e7 ⟨rfl, N9, K10, E_7, f8, F7⟩
theorem d_prog_6_method_1_code_0 : decode prog_6_method_1_code 0 = .ok (.aload_n 0, 1) := by decide +kernel
theorem d_prog_6_method_1_code_1 : decode prog_6_method_1_code 1 = .ok (.invokespecial 1, 3) := by decide +kernel
theorem d_prog_6_method_1_code_4 : decode prog_6_method_1_code 4 = .ok (.aload_n 0, 1) := by decide +kernel
theorem d_prog_6_method_1_code_5 : decode prog_6_method_1_code 5 = .ok (.lload_n 1, 1) := by decide +kernel
theorem d_prog_6_method_1_code_6 : decode prog_6_method_1_code 6 = .ok (.putfield 7, 3) := by decide +kernel
theorem d_prog_6_method_1_code_9 : decode prog_6_method_1_code 9 = .ok (.aload_n 0, 1) := by decide +kernel
theorem d_prog_6_method_1_code_10 : decode prog_6_method_1_code 10 = .ok (.aload_n 3, 1) := by decide +kernel
theorem d_prog_6_method_1_code_11 : decode prog_6_method_1_code 11 = .ok (.putfield 13, 3) := by decide +kernel
theorem d_prog_6_method_1_code_14 : decode prog_6_method_1_code 14 = .ok (.aload_n 0, 1) := by decide +kernel
theorem d_prog_6_method_1_code_15 : decode prog_6_method_1_code 15 = .ok (.aload 4, 2) := by decide +kernel
theorem d_prog_6_method_1_code_17 : decode prog_6_method_1_code 17 = .ok (.putfield 17, 3) := by decide +kernel
theorem d_prog_6_method_1_code_20 : decode prog_6_method_1_code 20 = .ok (.aload_n 0, 1) := by decide +kernel
theorem d_prog_6_method_1_code_21 : decode prog_6_method_1_code 21 = .ok (.aload 5, 2) := by decide +kernel
theorem d_prog_6_method_1_code_23 : decode prog_6_method_1_code 23 = .ok (.putfield 21, 3) := by decide +kernel
theorem d_prog_6_method_1_code_26 : decode prog_6_method_1_code 26 = .ok (.return_, 1) := by decide +kernel
theorem o_ef6 (m : MethodId) (a1 : Addr) (p0 : Int64) (a2 : Addr) (a3 : Addr) : entryFrame m #[(.ref a1), (.long p0), .null, (.ref a2), (.ref a3)] 6 = mkF m 0 #[.val (.ref a1), .val (.long p0), .second, .val .null, .val (.ref a2), .val (.ref a3)] [] := by first | (simp [entryFrame, mkF, argsToLocals, Value.category]; done) | rfl
theorem o_pn5 : plainName "com/example/overbook_guard/overbookguard/gate/Released" = true := by first | (simp [plainName, overriddenIn]; done) | decide +kernel
set_option maxRecDepth 65536 in
set_option maxHeartbeats 40000000 in
theorem c_released (l : Launch) (Z : State) (a0 : Array Value) (hw : ∀ d ∈ tables_1, d.before a0 Z = true) (a1 : Addr) (p0 : Int64) (a2 : Addr) (a3 : Addr) (h0 : Heap) (n0 : Nat) (Z0 : n0 ≤ h0.size) (pg_a1 : n0 ≤ a1) (pE_a1 : Exa Z h0 a1 "com/example/overbook_guard/overbookguard/gate/Released") (pF_a1_seq : Fld Z h0 a1 "com/example/overbook_guard/overbookguard/gate/Released" "seq" "J" (.long (0 : Int64))) (pF_a1_booking : Fld Z h0 a1 "com/example/overbook_guard/overbookguard/gate/Released" "booking" "Ljava/util/Optional;" .null) (pF_a1_change : Fld Z h0 a1 "com/example/overbook_guard/overbookguard/gate/Released" "change" "Lcom/example/overbook_guard/overbookguard/pool/Booked;" .null) (pF_a1_pools : Fld Z h0 a1 "com/example/overbook_guard/overbookguard/gate/Released" "pools" "Ljava/util/List;" .null) :
    Does l Z (⟨"com/example/overbook_guard/overbookguard/gate/Released", "<init>", "(JLjava/util/Optional;Lcom/example/overbook_guard/overbookguard/pool/Booked;Ljava/util/List;)V"⟩ : MethodName) prog_6_method_1_code 6 none [] ({ frames := 2, cells := 0, slots := 0, locals := 24 } : Room) #[(.ref a1), (.long p0), .null, (.ref a2), (.ref a3)] h0 (fun v h L => v = none ∧ Fr n0 L ∧ Keep h0 h [a1] ∧ Exa Z h a1 "com/example/overbook_guard/overbookguard/gate/Released" ∧ Fld Z h a1 "com/example/overbook_guard/overbookguard/gate/Released" "seq" "J" (.long p0) ∧ Fld Z h a1 "com/example/overbook_guard/overbookguard/gate/Released" "booking" "Ljava/util/Optional;" .null ∧ Fld Z h a1 "com/example/overbook_guard/overbookguard/gate/Released" "change" "Lcom/example/overbook_guard/overbookguard/pool/Booked;" (.ref a2) ∧ Fld Z h a1 "com/example/overbook_guard/overbookguard/gate/Released" "pools" "Ljava/util/List;" (.ref a3)) := by
  refine Does.of (plainFor_of_name o_pn5) ?_
  intro p e s m below meth c T0 hx hby hml hown hnm hret hlk hZ X0 e0
  have hown : s.vm.findClass "com/example/overbook_guard/overbookguard/gate/Released" = some m.cls := hown
  have hml : c.maxLocals = 6 := hml
  have hret : meth.sig.returnType = none := hret
  refine o_entry (o_ef6 m a1 p0 a2 a3) ?_
  have N0 := Fr.nil n0
  refine o_aloadN X0 hx (hb hby d_prog_6_method_1_code_0) (v := (.ref a1)) rfl rfl (n := 1) rfl ?_
  refine o_callN X0 hx hZ rfl hown (hw _ (List.mem_of_getElem? (i := 48) rfl)) (hw _ (List.mem_of_getElem? (i := 7) rfl)) (hw _ (List.mem_of_getElem? (i := 9) rfl)) (hw _ (List.mem_of_getElem? (i := 10) rfl)) (by decide) e0 (a := a1) (argsL := []) (rest := []) (c_record l Z a0 hw a1 h0) 0 (by decide) (by decide) (by decide) (by decide) (by rw [hml]; rfl) (lenOf o_pd0 rfl) rfl (Nat.le_of_eq rfl) (hb hby d_prog_6_method_1_code_1) (n := 4) rfl ?_
  intro v1 T1 L1 X1 q1
  obtain ⟨rfl, e1, rfl⟩ := q1
  have N2 := Fr.app N0 (Fr.nil n0)
  show Goes p e below s _ _ _ (T1.setTop (mkF m 4 #[.val (.ref a1), .val (.long p0), .second, .val .null, .val (.ref a2), .val (.ref a3)] []))
  refine o_aloadN X1 hx (hb hby d_prog_6_method_1_code_4) (v := (.ref a1)) rfl rfl (n := 5) rfl ?_
  refine o_lloadN X1 hx (hb hby d_prog_6_method_1_code_5) (v := p0) rfl (n := 6) rfl ?_
  refine o_putfield X1 hx hZ hown (host := "") (Or.inl (hw _ (List.mem_of_getElem? (i := 49) rfl))) Via.refl e1 pF_a1_seq pE_a1 (Or.inr ⟨(hw _ (List.mem_of_getElem? (i := 50) rfl)), rfl, hnm⟩) (hw _ (List.mem_of_getElem? (i := 19) rfl)) (ty := .long) (by decide) rfl rfl (hb hby d_prog_6_method_1_code_6) (n := 9) rfl ?_
  intro T3 h3 X3 e3 W3 F3 E_3
  have f4 := pF_a1_booking.other W3 (Or.inr (slot_ne (Or.inr (hw _ (List.mem_of_getElem? (i := 52) rfl))) (Or.inr (hw _ (List.mem_of_getElem? (i := 50) rfl))) (by decide) (t := (.object "java/util/Optional")) (t' := .long) (by decide) (by decide)))
  have f5 := pF_a1_change.other W3 (Or.inr (slot_ne (Or.inr (hw _ (List.mem_of_getElem? (i := 54) rfl))) (Or.inr (hw _ (List.mem_of_getElem? (i := 50) rfl))) (by decide) (t := (.object "com/example/overbook_guard/overbookguard/pool/Booked")) (t' := .long) (by decide) (by decide)))
  have f6 := pF_a1_pools.other W3 (Or.inr (slot_ne (Or.inr (hw _ (List.mem_of_getElem? (i := 56) rfl))) (Or.inr (hw _ (List.mem_of_getElem? (i := 50) rfl))) (by decide) (t := (.object "java/util/List")) (t' := .long) (by decide) (by decide)))
  have zz3 : n0 ≤ h3.size := Nat.le_trans Z0 (Nat.le_of_eq W3.size.symm)
  have N7 := Fr.snoc X3 N2 pg_a1
  have K8 : Keep h0 h3 [a1] := (Keep.refl h0 [a1]).wr W3 (Or.inl (List.mem_of_getElem? (i := 0) rfl))
  refine o_aloadN X3 hx (hb hby d_prog_6_method_1_code_9) (v := (.ref a1)) rfl rfl (n := 10) rfl ?_
  refine o_aloadN X3 hx (hb hby d_prog_6_method_1_code_10) (v := .null) rfl rfl (n := 11) rfl ?_
  refine o_putfield X3 hx hZ hown (host := "") (Or.inl (hw _ (List.mem_of_getElem? (i := 51) rfl))) Via.refl e3 f4 E_3 (Or.inr ⟨(hw _ (List.mem_of_getElem? (i := 52) rfl)), rfl, hnm⟩) (hw _ (List.mem_of_getElem? (i := 19) rfl)) (ty := (.object "java/util/Optional")) (by decide) rfl rfl (hb hby d_prog_6_method_1_code_11) (n := 14) rfl ?_
  intro T9 h9 X9 e9 W9 F9 E_9
  have f10 := F3.other W9 (Or.inr (slot_ne (Or.inr (hw _ (List.mem_of_getElem? (i := 50) rfl))) (Or.inr (hw _ (List.mem_of_getElem? (i := 52) rfl))) (by decide) (t := .long) (t' := (.object "java/util/Optional")) (by decide) (by decide)))
  have f11 := f5.other W9 (Or.inr (slot_ne (Or.inr (hw _ (List.mem_of_getElem? (i := 54) rfl))) (Or.inr (hw _ (List.mem_of_getElem? (i := 52) rfl))) (by decide) (t := (.object "com/example/overbook_guard/overbookguard/pool/Booked")) (t' := (.object "java/util/Optional")) (by decide) (by decide)))
  have f12 := f6.other W9 (Or.inr (slot_ne (Or.inr (hw _ (List.mem_of_getElem? (i := 56) rfl))) (Or.inr (hw _ (List.mem_of_getElem? (i := 52) rfl))) (by decide) (t := (.object "java/util/List")) (t' := (.object "java/util/Optional")) (by decide) (by decide)))
  have zz9 : n0 ≤ h9.size := Nat.le_trans zz3 (Nat.le_of_eq W9.size.symm)
  have N13 := Fr.snoc X9 N7 pg_a1
  have K14 : Keep h0 h9 [a1] := K8.wr W9 (Or.inl (List.mem_of_getElem? (i := 0) rfl))
  refine o_aloadN X9 hx (hb hby d_prog_6_method_1_code_14) (v := (.ref a1)) rfl rfl (n := 15) rfl ?_
  refine o_aload X9 hx (hb hby d_prog_6_method_1_code_15) (v := (.ref a2)) rfl rfl (n := 17) rfl ?_
  refine o_putfield X9 hx hZ hown (host := "") (Or.inl (hw _ (List.mem_of_getElem? (i := 53) rfl))) Via.refl e9 f11 E_9 (Or.inr ⟨(hw _ (List.mem_of_getElem? (i := 54) rfl)), rfl, hnm⟩) (hw _ (List.mem_of_getElem? (i := 19) rfl)) (ty := (.object "com/example/overbook_guard/overbookguard/pool/Booked")) (by decide) rfl rfl (hb hby d_prog_6_method_1_code_17) (n := 20) rfl ?_
  intro T15 h15 X15 e15 W15 F15 E_15
  have f16 := f10.other W15 (Or.inr (slot_ne (Or.inr (hw _ (List.mem_of_getElem? (i := 50) rfl))) (Or.inr (hw _ (List.mem_of_getElem? (i := 54) rfl))) (by decide) (t := .long) (t' := (.object "com/example/overbook_guard/overbookguard/pool/Booked")) (by decide) (by decide)))
  have f17 := F9.other W15 (Or.inr (slot_ne (Or.inr (hw _ (List.mem_of_getElem? (i := 52) rfl))) (Or.inr (hw _ (List.mem_of_getElem? (i := 54) rfl))) (by decide) (t := (.object "java/util/Optional")) (t' := (.object "com/example/overbook_guard/overbookguard/pool/Booked")) (by decide) (by decide)))
  have f18 := f12.other W15 (Or.inr (slot_ne (Or.inr (hw _ (List.mem_of_getElem? (i := 56) rfl))) (Or.inr (hw _ (List.mem_of_getElem? (i := 54) rfl))) (by decide) (t := (.object "java/util/List")) (t' := (.object "com/example/overbook_guard/overbookguard/pool/Booked")) (by decide) (by decide)))
  have zz15 : n0 ≤ h15.size := Nat.le_trans zz9 (Nat.le_of_eq W15.size.symm)
  have N19 := Fr.snoc X15 N13 pg_a1
  have K20 : Keep h0 h15 [a1] := K14.wr W15 (Or.inl (List.mem_of_getElem? (i := 0) rfl))
  refine o_aloadN X15 hx (hb hby d_prog_6_method_1_code_20) (v := (.ref a1)) rfl rfl (n := 21) rfl ?_
  refine o_aload X15 hx (hb hby d_prog_6_method_1_code_21) (v := (.ref a3)) rfl rfl (n := 23) rfl ?_
  refine o_putfield X15 hx hZ hown (host := "") (Or.inl (hw _ (List.mem_of_getElem? (i := 55) rfl))) Via.refl e15 f18 E_15 (Or.inr ⟨(hw _ (List.mem_of_getElem? (i := 56) rfl)), rfl, hnm⟩) (hw _ (List.mem_of_getElem? (i := 19) rfl)) (ty := (.object "java/util/List")) (by decide) rfl rfl (hb hby d_prog_6_method_1_code_23) (n := 26) rfl ?_
  intro T21 h21 X21 e21 W21 F21 E_21
  have f22 := f16.other W21 (Or.inr (slot_ne (Or.inr (hw _ (List.mem_of_getElem? (i := 50) rfl))) (Or.inr (hw _ (List.mem_of_getElem? (i := 56) rfl))) (by decide) (t := .long) (t' := (.object "java/util/List")) (by decide) (by decide)))
  have f23 := f17.other W21 (Or.inr (slot_ne (Or.inr (hw _ (List.mem_of_getElem? (i := 52) rfl))) (Or.inr (hw _ (List.mem_of_getElem? (i := 56) rfl))) (by decide) (t := (.object "java/util/Optional")) (t' := (.object "java/util/List")) (by decide) (by decide)))
  have f24 := F15.other W21 (Or.inr (slot_ne (Or.inr (hw _ (List.mem_of_getElem? (i := 54) rfl))) (Or.inr (hw _ (List.mem_of_getElem? (i := 56) rfl))) (by decide) (t := (.object "com/example/overbook_guard/overbookguard/pool/Booked")) (t' := (.object "java/util/List")) (by decide) (by decide)))
  have zz21 : n0 ≤ h21.size := Nat.le_trans zz15 (Nat.le_of_eq W21.size.symm)
  have N25 := Fr.snoc X21 N19 pg_a1
  have K26 : Keep h0 h21 [a1] := K20.wr W21 (Or.inl (List.mem_of_getElem? (i := 0) rfl))
  exact o_return X21 hx hret hlk (hb hby d_prog_6_method_1_code_26) (by decide) (by decide) e21 ⟨rfl, N25, K26, E_21, f22, f23, f24, F21⟩
theorem d_jdk_29_method_66_code_0 : decode jdk_29_method_66_code 0 = .ok (.lload_n 0, 1) := by decide +kernel
theorem d_jdk_29_method_66_code_1 : decode jdk_29_method_66_code 1 = .ok (.lload_n 2, 1) := by decide +kernel
theorem d_jdk_29_method_66_code_2 : decode jdk_29_method_66_code 2 = .ok (.lcmp, 1) := by decide +kernel
theorem d_jdk_29_method_66_code_3 : decode jdk_29_method_66_code 3 = .ok (.ifCond .lt 7, 3) := by decide +kernel
theorem d_jdk_29_method_66_code_10 : decode jdk_29_method_66_code 10 = .ok (.lload_n 2, 1) := by decide +kernel
theorem d_jdk_29_method_66_code_11 : decode jdk_29_method_66_code 11 = .ok (.lreturn, 1) := by decide +kernel
theorem d_jdk_29_method_66_code_6 : decode jdk_29_method_66_code 6 = .ok (.lload_n 0, 1) := by decide +kernel
theorem d_jdk_29_method_66_code_7 : decode jdk_29_method_66_code 7 = .ok (.goto 4, 3) := by decide +kernel
theorem o_ef7 (m : MethodId) (p0 : Int64) (p1 : Int64) : entryFrame m #[(.long p0), (.long p1)] 4 = mkF m 0 #[.val (.long p0), .second, .val (.long p1), .second] [] := by first | (simp [entryFrame, mkF, argsToLocals, Value.category]; done) | rfl
set_option maxRecDepth 65536 in
set_option maxHeartbeats 40000000 in
theorem c_max (l : Launch) (Z : State) (a0 : Array Value) (hw : ∀ d ∈ tables_1, d.before a0 Z = true) (p0 : Int64) (p1 : Int64) (h0 : Heap) :
    Does l Z (⟨"java/lang/Math", "max", "(JJ)J"⟩ : MethodName) jdk_29_method_66_code 4 (some .long) [] ({ frames := 0, cells := 0, slots := 0, locals := 0 } : Room) #[(.long p0), (.long p1)] h0 (Pur h0 (.long (o_max p0 p1))) := by
  refine Does.of (Jvm.Free.JP.mathPlain rfl (by decide +kernel)) ?_
  intro p e s m below meth c T0 hx hby hml hown hnm hret hlk hZ X0 e0
  have hown : s.vm.findClass "java/lang/Math" = some m.cls := hown
  have hml : c.maxLocals = 4 := hml
  have hret : meth.sig.returnType = some .long := hret
  refine o_entry (o_ef7 m p0 p1) ?_
  refine o_lloadN X0 hx (hb hby d_jdk_29_method_66_code_0) (v := p0) rfl (n := 1) rfl ?_
  refine o_lloadN X0 hx (hb hby d_jdk_29_method_66_code_1) (v := p1) rfl (n := 2) rfl ?_
  refine o_lcmp X0 hx (hb hby d_jdk_29_method_66_code_2) (n := 3) rfl ?_
  by_cases hc3 : p0 < p1
  · refine o_ifY X0 hx (hb hby d_jdk_29_method_66_code_3) (XT.ll_lt_t hc3) (by decide) (n := 10) (by decide) ?_
    refine o_lloadN X0 hx (hb hby d_jdk_29_method_66_code_10) (v := p1) rfl (n := 11) rfl ?_
    exact o_lreturn X0 hx hret hlk (hb hby d_jdk_29_method_66_code_11) (by decide) (by decide) e0 ⟨by first | (simp only [o_max, hc3, o_nz1, o_nz0, ↓reduceIte, eq_self]; done) | (simp [o_max, hc3]; done) | (simp [o_max, hc3, o_nz1, o_nz0]; done), rfl, rfl⟩
  · refine o_ifN X0 hx (hb hby d_jdk_29_method_66_code_3) (XT.ll_lt_f hc3) (n := 6) rfl ?_
    refine o_lloadN X0 hx (hb hby d_jdk_29_method_66_code_6) (v := p0) rfl (n := 7) rfl ?_
    refine o_goto X0 hx (hb hby d_jdk_29_method_66_code_7) (by decide) (n := 11) (by decide) ?_
    exact o_lreturn X0 hx hret hlk (hb hby d_jdk_29_method_66_code_11) (by decide) (by decide) e0 ⟨by first | (simp only [o_max, hc3, o_nz1, o_nz0, ↓reduceIte, eq_self]; done) | (simp [o_max, hc3]; done) | (simp [o_max, hc3, o_nz1, o_nz0]; done), rfl, rfl⟩
theorem d_prog_42_method_5_code_0 : decode prog_42_method_5_code 0 = .ok (.aload_n 0, 1) := by decide +kernel
theorem d_prog_42_method_5_code_1 : decode prog_42_method_5_code 1 = .ok (.getfield 7, 3) := by decide +kernel
theorem d_prog_42_method_5_code_4 : decode prog_42_method_5_code 4 = .ok (.lreturn, 1) := by decide +kernel
theorem o_ef8 (m : MethodId) (a1 : Addr) : entryFrame m #[(.ref a1)] 1 = mkF m 0 #[.val (.ref a1)] [] := by first | (simp [entryFrame, mkF, argsToLocals, Value.category]; done) | rfl
set_option maxRecDepth 65536 in
set_option maxHeartbeats 40000000 in
theorem c_cores (l : Launch) (Z : State) (a0 : Array Value) (hw : ∀ d ∈ tables_1, d.before a0 Z = true) (a1 : Addr) (w : Int64) (h0 : Heap) (pF_a1_cores : Fld Z h0 a1 "com/example/overbook_guard/overbookguard/pool/Booked" "cores" "J" (.long w)) :
    Does l Z (⟨"com/example/overbook_guard/overbookguard/pool/Booked", "cores", "()J"⟩ : MethodName) prog_42_method_5_code 1 (some .long) [] ({ frames := 0, cells := 0, slots := 0, locals := 0 } : Room) #[(.ref a1)] h0 (Pur h0 (.long w)) := by
  refine Does.of (plainFor_of_name o_pn4) ?_
  intro p e s m below meth c T0 hx hby hml hown hnm hret hlk hZ X0 e0
  have hown : s.vm.findClass "com/example/overbook_guard/overbookguard/pool/Booked" = some m.cls := hown
  have hml : c.maxLocals = 1 := hml
  have hret : meth.sig.returnType = some .long := hret
  refine o_entry (o_ef8 m a1) ?_
  refine o_aloadN X0 hx (hb hby d_prog_42_method_5_code_0) (v := (.ref a1)) rfl rfl (n := 1) rfl ?_
  refine o_getfield X0 hx hZ hown (host := "") (Or.inl (hw _ (List.mem_of_getElem? (i := 14) rfl))) Via.refl e0 pF_a1_cores (hb hby d_prog_42_method_5_code_1) (n := 4) rfl ?_
  intro T1 X1 e1
  exact o_lreturn X1 hx hret hlk (hb hby d_prog_42_method_5_code_4) (by decide) (by decide) e1 ⟨rfl, rfl, rfl⟩
theorem d_prog_42_method_6_code_0 : decode prog_42_method_6_code 0 = .ok (.aload_n 0, 1) := by decide +kernel
theorem d_prog_42_method_6_code_1 : decode prog_42_method_6_code 1 = .ok (.getfield 13, 3) := by decide +kernel
theorem d_prog_42_method_6_code_4 : decode prog_42_method_6_code 4 = .ok (.lreturn, 1) := by decide +kernel
theorem o_ef9 (m : MethodId) (a1 : Addr) : entryFrame m #[(.ref a1)] 1 = mkF m 0 #[.val (.ref a1)] [] := by first | (simp [entryFrame, mkF, argsToLocals, Value.category]; done) | rfl
set_option maxRecDepth 65536 in
set_option maxHeartbeats 40000000 in
theorem c_gpus (l : Launch) (Z : State) (a0 : Array Value) (hw : ∀ d ∈ tables_1, d.before a0 Z = true) (a1 : Addr) (w : Int64) (h0 : Heap) (pF_a1_gpus : Fld Z h0 a1 "com/example/overbook_guard/overbookguard/pool/Booked" "gpus" "J" (.long w)) :
    Does l Z (⟨"com/example/overbook_guard/overbookguard/pool/Booked", "gpus", "()J"⟩ : MethodName) prog_42_method_6_code 1 (some .long) [] ({ frames := 0, cells := 0, slots := 0, locals := 0 } : Room) #[(.ref a1)] h0 (Pur h0 (.long w)) := by
  refine Does.of (plainFor_of_name o_pn4) ?_
  intro p e s m below meth c T0 hx hby hml hown hnm hret hlk hZ X0 e0
  have hown : s.vm.findClass "com/example/overbook_guard/overbookguard/pool/Booked" = some m.cls := hown
  have hml : c.maxLocals = 1 := hml
  have hret : meth.sig.returnType = some .long := hret
  refine o_entry (o_ef9 m a1) ?_
  refine o_aloadN X0 hx (hb hby d_prog_42_method_6_code_0) (v := (.ref a1)) rfl rfl (n := 1) rfl ?_
  refine o_getfield X0 hx hZ hown (host := "") (Or.inl (hw _ (List.mem_of_getElem? (i := 16) rfl))) Via.refl e0 pF_a1_gpus (hb hby d_prog_42_method_6_code_1) (n := 4) rfl ?_
  intro T1 X1 e1
  exact o_lreturn X1 hx hret hlk (hb hby d_prog_42_method_6_code_4) (by decide) (by decide) e1 ⟨rfl, rfl, rfl⟩
theorem d_prog_6_method_2_code_0 : decode prog_6_method_2_code 0 = .ok (.aload_n 0, 1) := by decide +kernel
theorem d_prog_6_method_2_code_1 : decode prog_6_method_2_code 1 = .ok (.getfield 17, 3) := by decide +kernel
theorem d_prog_6_method_2_code_4 : decode prog_6_method_2_code 4 = .ok (.invokevirtual 25, 3) := by decide +kernel
theorem o_pd1 : parseMethodDescriptor "()J" = some ⟨[], some .long⟩ := by decide +kernel
theorem d_prog_6_method_2_code_7 : decode prog_6_method_2_code 7 = .ok (.lconst 0, 1) := by decide +kernel
theorem d_prog_6_method_2_code_8 : decode prog_6_method_2_code 8 = .ok (.lcmp, 1) := by decide +kernel
theorem d_prog_6_method_2_code_9 : decode prog_6_method_2_code 9 = .ok (.ifCond .gt 15, 3) := by decide +kernel
theorem d_prog_6_method_2_code_24 : decode prog_6_method_2_code 24 = .ok (.iconst 1, 1) := by decide +kernel
theorem d_prog_6_method_2_code_25 : decode prog_6_method_2_code 25 = .ok (.goto 4, 3) := by decide +kernel
theorem d_prog_6_method_2_code_29 : decode prog_6_method_2_code 29 = .ok (.ireturn, 1) := by decide +kernel
theorem d_prog_6_method_2_code_12 : decode prog_6_method_2_code 12 = .ok (.aload_n 0, 1) := by decide +kernel
theorem d_prog_6_method_2_code_13 : decode prog_6_method_2_code 13 = .ok (.getfield 17, 3) := by decide +kernel
theorem d_prog_6_method_2_code_16 : decode prog_6_method_2_code 16 = .ok (.invokevirtual 31, 3) := by decide +kernel
theorem d_prog_6_method_2_code_19 : decode prog_6_method_2_code 19 = .ok (.lconst 0, 1) := by decide +kernel
theorem d_prog_6_method_2_code_20 : decode prog_6_method_2_code 20 = .ok (.lcmp, 1) := by decide +kernel
theorem d_prog_6_method_2_code_21 : decode prog_6_method_2_code 21 = .ok (.ifCond .le 7, 3) := by decide +kernel
theorem d_prog_6_method_2_code_28 : decode prog_6_method_2_code 28 = .ok (.iconst 0, 1) := by decide +kernel
theorem o_ef10 (m : MethodId) (a1 : Addr) : entryFrame m #[(.ref a1)] 1 = mkF m 0 #[.val (.ref a1)] [] := by first | (simp [entryFrame, mkF, argsToLocals, Value.category]; done) | rfl
set_option maxRecDepth 65536 in
set_option maxHeartbeats 40000000 in
theorem c_adm (l : Launch) (Z : State) (a0 : Array Value) (hw : ∀ d ∈ tables_1, d.before a0 Z = true) (a1 : Addr) (a2 : Addr) (w : Int64) (u : Int64) (h0 : Heap) (pF_a1_change : Fld Z h0 a1 "com/example/overbook_guard/overbookguard/gate/Released" "change" "Lcom/example/overbook_guard/overbookguard/pool/Booked;" (.ref a2)) (pE_a2 : Exa Z h0 a2 "com/example/overbook_guard/overbookguard/pool/Booked") (pF_a2_cores : Fld Z h0 a2 "com/example/overbook_guard/overbookguard/pool/Booked" "cores" "J" (.long w)) (pF_a2_gpus : Fld Z h0 a2 "com/example/overbook_guard/overbookguard/pool/Booked" "gpus" "J" (.long u)) :
    Does l Z (⟨"com/example/overbook_guard/overbookguard/gate/Released", "admission", "()Z"⟩ : MethodName) prog_6_method_2_code 1 (some .boolean) [] ({ frames := 1, cells := 0, slots := 0, locals := 12 } : Room) #[(.ref a1)] h0 (Pur h0 (.int (o_adm w u))) := by
  refine Does.of (plainFor_of_name o_pn5) ?_
  intro p e s m below meth c T0 hx hby hml hown hnm hret hlk hZ X0 e0
  have hown : s.vm.findClass "com/example/overbook_guard/overbookguard/gate/Released" = some m.cls := hown
  have hml : c.maxLocals = 1 := hml
  have hret : meth.sig.returnType = some .boolean := hret
  refine o_entry (o_ef10 m a1) ?_
  refine o_aloadN X0 hx (hb hby d_prog_6_method_2_code_0) (v := (.ref a1)) rfl rfl (n := 1) rfl ?_
  refine o_getfield X0 hx hZ hown (host := "") (Or.inl (hw _ (List.mem_of_getElem? (i := 53) rfl))) Via.refl e0 pF_a1_change (hb hby d_prog_6_method_2_code_1) (n := 4) rfl ?_
  intro T1 X1 e1
  refine o_callV X1 hx hZ hown (hw _ (List.mem_of_getElem? (i := 66) rfl)) (hw _ (List.mem_of_getElem? (i := 67) rfl)) (hw _ (List.mem_of_getElem? (i := 69) rfl)) (hw _ (List.mem_of_getElem? (i := 68) rfl)) (hw _ (List.mem_of_getElem? (i := 2) rfl)) (hw _ (List.mem_of_getElem? (i := 70) rfl)) (by decide) e1 pE_a2 (argsL := []) (rest := []) (c_cores l Z a0 hw a2 w h0 pF_a2_cores) 0 (by decide) (by decide) (by decide) (by decide) (by rw [hml]; rfl) (lenOf o_pd1 rfl) rfl (Nat.le_of_eq rfl) (hb hby d_prog_6_method_2_code_4) (n := 7) rfl ?_
  intro v2 T2 L2 X2 q2
  obtain ⟨rfl, e2, rfl⟩ := q2
  show Goes p e below s _ _ _ (T2.setTop (mkF m 7 #[.val (.ref a1)] [(.long w)]))
  refine o_lconst X2 hx (hb hby d_prog_6_method_2_code_7) (v := (0 : Int64)) rfl (n := 8) rfl ?_
  refine o_lcmp X2 hx (hb hby d_prog_6_method_2_code_8) (n := 9) rfl ?_
  by_cases hc9 : (0 : Int64) < w
  · refine o_ifY X2 hx (hb hby d_prog_6_method_2_code_9) (XT.ll_gt_t hc9) (by decide) (n := 24) (by decide) ?_
    refine o_iconst X2 hx (hb hby d_prog_6_method_2_code_24) (v := (1 : Int32)) rfl (n := 25) rfl ?_
    refine o_goto X2 hx (hb hby d_prog_6_method_2_code_25) (by decide) (n := 29) (by decide) ?_
    exact o_nreturn X2 hx hret hlk (t := .boolean) (by simp) (hb hby d_prog_6_method_2_code_29) (by decide) (by decide) e2 ⟨(by rw [o_nz1]; simp [o_adm, hc9]), rfl, rfl⟩
  · refine o_ifN X2 hx (hb hby d_prog_6_method_2_code_9) (XT.ll_gt_f hc9) (n := 12) rfl ?_
    refine o_aloadN X2 hx (hb hby d_prog_6_method_2_code_12) (v := (.ref a1)) rfl rfl (n := 13) rfl ?_
    refine o_getfield X2 hx hZ hown (host := "") (Or.inl (hw _ (List.mem_of_getElem? (i := 53) rfl))) Via.refl e2 pF_a1_change (hb hby d_prog_6_method_2_code_13) (n := 16) rfl ?_
    intro T3 X3 e3
    refine o_callV X3 hx hZ hown (hw _ (List.mem_of_getElem? (i := 71) rfl)) (hw _ (List.mem_of_getElem? (i := 72) rfl)) (hw _ (List.mem_of_getElem? (i := 74) rfl)) (hw _ (List.mem_of_getElem? (i := 73) rfl)) (hw _ (List.mem_of_getElem? (i := 2) rfl)) (hw _ (List.mem_of_getElem? (i := 75) rfl)) (by decide) e3 pE_a2 (argsL := []) (rest := []) (c_gpus l Z a0 hw a2 u h0 pF_a2_gpus) 0 (by decide) (by decide) (by decide) (by decide) (by rw [hml]; rfl) (lenOf o_pd1 rfl) rfl (Nat.le_of_eq rfl) (hb hby d_prog_6_method_2_code_16) (n := 19) rfl ?_
    intro v4 T4 L4 X4 q4
    obtain ⟨rfl, e4, rfl⟩ := q4
    show Goes p e below s _ _ _ (T4.setTop (mkF m 19 #[.val (.ref a1)] [(.long u)]))
    refine o_lconst X4 hx (hb hby d_prog_6_method_2_code_19) (v := (0 : Int64)) rfl (n := 20) rfl ?_
    refine o_lcmp X4 hx (hb hby d_prog_6_method_2_code_20) (n := 21) rfl ?_
    by_cases hc21 : (0 : Int64) < u
    · refine o_ifN X4 hx (hb hby d_prog_6_method_2_code_21) (XT.ll_le_f hc21) (n := 24) rfl ?_
      refine o_iconst X4 hx (hb hby d_prog_6_method_2_code_24) (v := (1 : Int32)) rfl (n := 25) rfl ?_
      refine o_goto X4 hx (hb hby d_prog_6_method_2_code_25) (by decide) (n := 29) (by decide) ?_
      exact o_nreturn X4 hx hret hlk (t := .boolean) (by simp) (hb hby d_prog_6_method_2_code_29) (by decide) (by decide) e4 ⟨(by rw [o_nz1]; simp [o_adm, hc9, hc21]), rfl, rfl⟩
    · refine o_ifY X4 hx (hb hby d_prog_6_method_2_code_21) (XT.ll_le_t hc21) (by decide) (n := 28) (by decide) ?_
      refine o_iconst X4 hx (hb hby d_prog_6_method_2_code_28) (v := (0 : Int32)) rfl (n := 29) rfl ?_
      exact o_nreturn X4 hx hret hlk (t := .boolean) (by simp) (hb hby d_prog_6_method_2_code_29) (by decide) (by decide) e4 ⟨(by rw [o_nz0]; simp [o_adm, hc9, hc21]), rfl, rfl⟩
theorem o_pd2 : parseMethodDescriptor "(JJ)V" = some ⟨[.long, .long], none⟩ := by decide +kernel
theorem o_pd3 : parseMethodDescriptor "(JLjava/util/Optional;Lcom/example/overbook_guard/overbookguard/pool/Booked;Ljava/util/List;)V" = some ⟨[.long, (.object "java/util/Optional"), (.object "com/example/overbook_guard/overbookguard/pool/Booked"), (.object "java/util/List")], none⟩ := by decide +kernel
theorem o_pd4 : parseMethodDescriptor "(JJ)J" = some ⟨[.long, .long], some .long⟩ := by decide +kernel
theorem o_pd5 : parseMethodDescriptor "()Z" = some ⟨[], some .boolean⟩ := by decide +kernel
theorem o_ef11 (m : MethodId) (p0 : Int64) (p1 : Int64) (p2 : Int64) : entryFrame m #[(.long p0), (.long p1), (.long p2)] maxLocals = mkF m 0 #[.val (.long p0), .second, .val (.long p1), .second, .val (.long p2), .second, .unset, .unset, .unset] [] := by first | (simp [entryFrame, mkF, argsToLocals, Value.category, maxLocals]; done) | rfl
theorem o_pn6 : plainName "com/example/overbook_guard/overbookguard/gate/ReleasedAdmissionPinLaw" = true := by first | (simp [plainName, overriddenIn]; done) | decide +kernel
set_option maxRecDepth 65536 in
set_option maxHeartbeats 40000000 in
theorem o_law (l : Launch) (Z : State) (a0 : Array Value) (hw : ∀ d ∈ tables_1, d.before a0 Z = true) (p0 : Int64) (p1 : Int64) (p2 : Int64) (h0 : Heap) (n0 : Nat) (Z0 : n0 ≤ h0.size) (d0 : Addr) (pS : Sta Z h0 "java/util/ArrayList" "DEFAULTCAPACITY_EMPTY_ELEMENTDATA" "[Ljava/lang/Object;" (.ref d0)) :
    Does l Z x code maxLocals ret tables_1 room_1 #[(.long p0), (.long p1), (.long p2)] h0 (fun v h L => v = some (.int 1) ∧ Fr n0 L) := by
  refine Does.of (plainFor_of_name o_pn6) ?_
  intro p e s m below meth c T0 hx hby hml hown hnm hret hlk hZ X0 e0
  have hown : s.vm.findClass "com/example/overbook_guard/overbookguard/gate/ReleasedAdmissionPinLaw" = some m.cls := hown
  have hml : c.maxLocals = 9 := hml
  have hret : meth.sig.returnType = some .boolean := hret
  refine o_entry (o_ef11 m p0 p1 p2) ?_
  have N0 := Fr.nil n0
  refine o_new X0 hx hZ hown (hw _ (List.mem_of_getElem? (i := 0) rfl)) (hw _ (List.mem_of_getElem? (i := 1) rfl)) (hw _ (List.mem_of_getElem? (i := 2) rfl)) e0 (hb hby at_0) (by decide) (by decide) (n := 3) rfl ?_
  intro T1 h1 b1 X1 e1 g1 E1 A1 D1
  have gg1 : n0 ≤ b1 := Nat.le_trans Z0 (Nat.le_of_eq g1.symm)
  have zz1 : n0 ≤ h1.size := Nat.le_trans Z0 E1.1
  have f2 := pS.ext E1
  have f3 : Fld Z h1 b1 "com/example/overbook_guard/overbookguard/pool/Booked" "cores" "J" (.long (0 : Int64)) := D1 (Or.inr (hw _ (List.mem_of_getElem? (i := 15) rfl))) (ty := .long) (by decide)
  have f4 : Fld Z h1 b1 "com/example/overbook_guard/overbookguard/pool/Booked" "gpus" "J" (.long (0 : Int64)) := D1 (Or.inr (hw _ (List.mem_of_getElem? (i := 17) rfl))) (ty := .long) (by decide)
  refine o_dup X1 hx (hb hby at_3) rfl (n := 4) rfl ?_
  refine o_lloadN X1 hx (hb hby at_4) (v := p0) rfl (n := 5) rfl ?_
  refine o_lloadN X1 hx (hb hby at_5) (v := p1) rfl (n := 6) rfl ?_
  refine o_callN X1 hx hZ rfl hown (hw _ (List.mem_of_getElem? (i := 3) rfl)) (hw _ (List.mem_of_getElem? (i := 4) rfl)) (hw _ (List.mem_of_getElem? (i := 2) rfl)) (hw _ (List.mem_of_getElem? (i := 5) rfl)) (by decide) e1 (a := b1) (argsL := [(.long p0), (.long p1)]) (rest := [(.ref b1)]) (c_booked l Z a0 hw b1 p0 p1 h1 n0 zz1 gg1 A1 f3 f4) 1 (by decide) (by decide) (by decide) (by decide) (by rw [hml]; rfl) (lenOf o_pd2 rfl) rfl (Nat.le_of_eq rfl) (hb hby at_6) (n := 9) rfl ?_
  intro v5 T5 L5 X5 q5
  obtain ⟨rfl, Nq5, K5, o5_0, o5_1, o5_2⟩ := q5
  have N6 := Fr.app N0 Nq5
  have f7 := o_sta_keep f2 K5 (allS (P := fun a => ∀ cl : Cell, h1[a]? = some cl → cl.vm.isStatics = false) (o_exa_ns A1) all0)
  have f8 := A1.keep K5
  have zz5 : n0 ≤ T5.heap.size := Nat.le_trans zz1 K5.1
  show Goes p e below s _ _ _ (T5.setTop (mkF m 9 #[.val (.long p0), .second, .val (.long p1), .second, .val (.long p2), .second, .unset, .unset, .unset] [(.ref b1)]))
  refine o_astore X5 hx (hb hby at_9) rfl (Ls' := #[.val (.long p0), .second, .val (.long p1), .second, .val (.long p2), .second, .val (.ref b1), .unset, .unset]) rfl (n := 11) rfl ?_
  refine o_new X5 hx hZ hown (hw _ (List.mem_of_getElem? (i := 18) rfl)) (hw _ (List.mem_of_getElem? (i := 19) rfl)) (hw _ (List.mem_of_getElem? (i := 20) rfl)) (rfl : T5.heap = T5.heap) (hb hby at_11) (by decide) (by decide) (n := 14) rfl ?_
  intro T11 h11 b11 X11 e11 g11 E11 A11 D11
  have ne12 : b1 ≠ b11 := Nat.ne_of_lt (Nat.lt_of_lt_of_eq o5_0.lt g11.symm)
  have gg11 : n0 ≤ b11 := Nat.le_trans zz5 (Nat.le_of_eq g11.symm)
  have zz11 : n0 ≤ h11.size := Nat.le_trans zz5 E11.1
  have f13 := f7.ext E11
  have f14 := o5_0.ext E11
  have f15 := o5_1.ext E11
  have f16 := o5_2.ext E11
  have f17 : Fld Z h11 b11 "com/example/overbook_guard/overbookguard/gate/Released" "seq" "J" (.long (0 : Int64)) := D11 (Or.inr (hw _ (List.mem_of_getElem? (i := 50) rfl))) (ty := .long) (by decide)
  have f18 : Fld Z h11 b11 "com/example/overbook_guard/overbookguard/gate/Released" "booking" "Ljava/util/Optional;" .null := D11 (Or.inr (hw _ (List.mem_of_getElem? (i := 52) rfl))) (ty := (.object "java/util/Optional")) (by decide)
  have f19 : Fld Z h11 b11 "com/example/overbook_guard/overbookguard/gate/Released" "change" "Lcom/example/overbook_guard/overbookguard/pool/Booked;" .null := D11 (Or.inr (hw _ (List.mem_of_getElem? (i := 54) rfl))) (ty := (.object "com/example/overbook_guard/overbookguard/pool/Booked")) (by decide)
  have f20 : Fld Z h11 b11 "com/example/overbook_guard/overbookguard/gate/Released" "pools" "Ljava/util/List;" .null := D11 (Or.inr (hw _ (List.mem_of_getElem? (i := 56) rfl))) (ty := (.object "java/util/List")) (by decide)
  refine o_dup X11 hx (hb hby at_14) rfl (n := 15) rfl ?_
  refine o_lload X11 hx (hb hby at_15) (v := p2) rfl (n := 17) rfl ?_
  refine o_aconst_null X11 hx (hb hby at_17) (n := 18) rfl ?_
  refine o_aload X11 hx (hb hby at_18) (v := (.ref b1)) rfl rfl (n := 20) rfl ?_
  refine o_new X11 hx hZ hown (hw _ (List.mem_of_getElem? (i := 21) rfl)) (hw _ (List.mem_of_getElem? (i := 22) rfl)) (hw _ (List.mem_of_getElem? (i := 23) rfl)) e11 (hb hby at_20) (by decide) (by decide) (n := 23) rfl ?_
  intro T21 h21 b21 X21 e21 g21 E21 A21 D21
  have ne22 : b1 ≠ b21 := Nat.ne_of_lt (Nat.lt_of_lt_of_eq f14.lt g21.symm)
  have ne23 : b11 ≠ b21 := Nat.ne_of_lt (Nat.lt_of_lt_of_eq A11.lt g21.symm)
  have gg21 : n0 ≤ b21 := Nat.le_trans zz11 (Nat.le_of_eq g21.symm)
  have zz21 : n0 ≤ h21.size := Nat.le_trans zz11 E21.1
  have f24 := f13.ext E21
  have f25 := f14.ext E21
  have f26 := f15.ext E21
  have f27 := f16.ext E21
  have f28 := A11.ext E21
  have f29 := f17.ext E21
  have f30 := f18.ext E21
  have f31 := f19.ext E21
  have f32 := f20.ext E21
  have f33 : Fld Z h21 b21 "java/util/AbstractList" "modCount" "I" (.int (0 : Int32)) := D21 (Or.inl (hw _ (List.mem_of_getElem? (i := 41) rfl))) (ty := .int) (by decide)
  have f34 : Fld Z h21 b21 "java/util/ArrayList" "elementData" "[Ljava/lang/Object;" .null := D21 (Or.inl (hw _ (List.mem_of_getElem? (i := 44) rfl))) (ty := (.array (.object "java/lang/Object"))) (by decide)
  refine o_dup X21 hx (hb hby at_23) rfl (n := 24) rfl ?_
  refine o_callN X21 hx hZ rfl hown (hw _ (List.mem_of_getElem? (i := 24) rfl)) (hw _ (List.mem_of_getElem? (i := 25) rfl)) (hw _ (List.mem_of_getElem? (i := 23) rfl)) (hw _ (List.mem_of_getElem? (i := 26) rfl)) (by decide) e21 (a := b21) (argsL := []) (rest := [(.ref b21), (.ref b1), .null, (.long p2), (.ref b11), (.ref b11)]) (c_list l Z a0 hw b21 d0 h21 n0 zz21 gg21 A21 f33 f34 f24) 7 (by decide) (by decide) (by decide) (by decide) (by rw [hml]; rfl) (lenOf o_pd0 rfl) rfl (Nat.le_of_eq rfl) (hb hby at_24) (n := 27) rfl ?_
  intro v35 T35 L35 X35 q35
  obtain ⟨rfl, Nq35, K35, o35_0⟩ := q35
  have N36 := Fr.app N6 Nq35
  have f37 := o_sta_keep f24 K35 (allS (P := fun a => ∀ cl : Cell, h21[a]? = some cl → cl.vm.isStatics = false) (o_exa_ns A21) all0)
  have f38 := f25.keep K35
  have f39 := f26.keep K35 (ninS ne22 nin0)
  have f40 := f27.keep K35 (ninS ne22 nin0)
  have f41 := f28.keep K35
  have f42 := f29.keep K35 (ninS ne23 nin0)
  have f43 := f30.keep K35 (ninS ne23 nin0)
  have f44 := f31.keep K35 (ninS ne23 nin0)
  have f45 := f32.keep K35 (ninS ne23 nin0)
  have f46 := A21.keep K35
  have zz35 : n0 ≤ T35.heap.size := Nat.le_trans zz21 K35.1
  show Goes p e below s _ _ _ (T35.setTop (mkF m 27 #[.val (.long p0), .second, .val (.long p1), .second, .val (.long p2), .second, .val (.ref b1), .unset, .unset] [(.ref b21), (.ref b1), .null, (.long p2), (.ref b11), (.ref b11)]))
  refine o_callN X35 hx hZ rfl hown (hw _ (List.mem_of_getElem? (i := 45) rfl)) (hw _ (List.mem_of_getElem? (i := 46) rfl)) (hw _ (List.mem_of_getElem? (i := 20) rfl)) (hw _ (List.mem_of_getElem? (i := 47) rfl)) (by decide) (rfl : T35.heap = T35.heap) (a := b11) (argsL := [(.long p2), .null, (.ref b1), (.ref b21)]) (rest := [(.ref b11)]) (c_released l Z a0 hw b11 p2 b1 b21 T35.heap n0 zz35 gg11 f41 f42 f43 f44 f45) 1 (by decide) (by decide) (by decide) (by decide) (by rw [hml]; rfl) (lenOf o_pd3 rfl) rfl (Nat.le_of_eq rfl) (hb hby at_27) (n := 30) rfl ?_
  intro v49 T49 L49 X49 q49
  obtain ⟨rfl, Nq49, K49, o49_0, o49_1, o49_2, o49_3, o49_4⟩ := q49
  have N50 := Fr.app N36 Nq49
  have f51 := o_sta_keep f37 K49 (allS (P := fun a => ∀ cl : Cell, T35.heap[a]? = some cl → cl.vm.isStatics = false) (o_exa_ns f41) all0)
  have f52 := f38.keep K49
  have f53 := f39.keep K49 (ninS ne12 nin0)
  have f54 := f40.keep K49 (ninS ne12 nin0)
  have f55 := f41.keep K49
  have f60 := o35_0.keep K49
  have zz49 : n0 ≤ T49.heap.size := Nat.le_trans zz35 K49.1
  show Goes p e below s _ _ _ (T49.setTop (mkF m 30 #[.val (.long p0), .second, .val (.long p1), .second, .val (.long p2), .second, .val (.ref b1), .unset, .unset] [(.ref b11)]))
  refine o_astore X49 hx (hb hby at_30) rfl (Ls' := #[.val (.long p0), .second, .val (.long p1), .second, .val (.long p2), .second, .val (.ref b1), .val (.ref b11), .unset]) rfl (n := 32) rfl ?_
  refine o_lloadN X49 hx (hb hby at_32) (v := p0) rfl (n := 33) rfl ?_
  refine o_lloadN X49 hx (hb hby at_33) (v := p1) rfl (n := 34) rfl ?_
  refine o_callS X49 hx hZ hown (hw _ (List.mem_of_getElem? (i := 57) rfl)) (hw _ (List.mem_of_getElem? (i := 58) rfl)) (hw _ (List.mem_of_getElem? (i := 59) rfl)) (hw _ (List.mem_of_getElem? (i := 60) rfl)) (by decide) (rfl : T49.heap = T49.heap) (argsL := [(.long p0), (.long p1)]) (rest := []) (c_max l Z a0 hw p0 p1 T49.heap) 0 (by decide) (by decide) (by decide) (by decide) (by rw [hml]; rfl) (lenOf o_pd4 rfl) rfl (Nat.le_of_eq rfl) (hb hby at_34) (n := 37) rfl ?_
  intro v61 T61 L61 X61 q61
  obtain ⟨rfl, e61, rfl⟩ := q61
  have N62 := Fr.app N50 (Fr.nil n0)
  show Goes p e below s _ _ _ (T61.setTop (mkF m 37 #[.val (.long p0), .second, .val (.long p1), .second, .val (.long p2), .second, .val (.ref b1), .val (.ref b11), .unset] [(.long (o_max p0 p1))]))
  refine o_lconst X61 hx (hb hby at_37) (v := (0 : Int64)) rfl (n := 38) rfl ?_
  refine o_lcmp X61 hx (hb hby at_38) (n := 39) rfl ?_
  by_cases hc39 : (0 : Int64) < (o_max p0 p1)
  · refine o_ifN X61 hx (hb hby at_39) (XT.ll_le_f hc39) (n := 42) rfl ?_
    refine o_iconst X61 hx (hb hby at_42) (v := (1 : Int32)) rfl (n := 43) rfl ?_
    refine o_goto X61 hx (hb hby at_43) (by decide) (n := 47) (by decide) ?_
    refine o_istore X61 hx (hb hby at_47) (Ls' := #[.val (.long p0), .second, .val (.long p1), .second, .val (.long p2), .second, .val (.ref b1), .val (.ref b11), .val (.int (1 : Int32))]) rfl (n := 49) rfl ?_
    refine o_aload X61 hx (hb hby at_49) (v := (.ref b11)) rfl rfl (n := 51) rfl ?_
    refine o_callV X61 hx hZ hown (hw _ (List.mem_of_getElem? (i := 61) rfl)) (hw _ (List.mem_of_getElem? (i := 62) rfl)) (hw _ (List.mem_of_getElem? (i := 64) rfl)) (hw _ (List.mem_of_getElem? (i := 63) rfl)) (hw _ (List.mem_of_getElem? (i := 20) rfl)) (hw _ (List.mem_of_getElem? (i := 65) rfl)) (by decide) e61 o49_0 (argsL := []) (rest := []) (c_adm l Z a0 hw b11 b1 p0 p1 T49.heap o49_3 f52 f53 f54) 0 (by decide) (by decide) (by decide) (by decide) (by rw [hml]; rfl) (lenOf o_pd5 rfl) rfl (Nat.le_of_eq rfl) (hb hby at_51) (n := 54) rfl ?_
    intro v63 T63 L63 X63 q63
    obtain ⟨rfl, e63, rfl⟩ := q63
    have N64 := Fr.app N62 (Fr.nil n0)
    show Goes p e below s _ _ _ (T63.setTop (mkF m 54 #[.val (.long p0), .second, .val (.long p1), .second, .val (.long p2), .second, .val (.ref b1), .val (.ref b11), .val (.int (1 : Int32))] [(.int (o_adm p0 p1))]))
    refine o_iload X63 hx (hb hby at_54) (v := (1 : Int32)) rfl (n := 56) rfl ?_
    refine o_icmpN X63 hx (hb hby at_56) (XT.ii_ne_f (o_a1 hc39)) (n := 59) rfl ?_
    refine o_iconst X63 hx (hb hby at_59) (v := (1 : Int32)) rfl (n := 60) rfl ?_
    refine o_goto X63 hx (hb hby at_60) (by decide) (n := 64) (by decide) ?_
    exact o_nreturn X63 hx hret hlk (t := .boolean) (by simp) (hb hby at_64) (by decide) (by decide) e63 ⟨rfl, N64⟩
  · refine o_ifY X61 hx (hb hby at_39) (XT.ll_le_t hc39) (by decide) (n := 46) (by decide) ?_
    refine o_iconst X61 hx (hb hby at_46) (v := (0 : Int32)) rfl (n := 47) rfl ?_
    refine o_istore X61 hx (hb hby at_47) (Ls' := #[.val (.long p0), .second, .val (.long p1), .second, .val (.long p2), .second, .val (.ref b1), .val (.ref b11), .val (.int (0 : Int32))]) rfl (n := 49) rfl ?_
    refine o_aload X61 hx (hb hby at_49) (v := (.ref b11)) rfl rfl (n := 51) rfl ?_
    refine o_callV X61 hx hZ hown (hw _ (List.mem_of_getElem? (i := 61) rfl)) (hw _ (List.mem_of_getElem? (i := 62) rfl)) (hw _ (List.mem_of_getElem? (i := 64) rfl)) (hw _ (List.mem_of_getElem? (i := 63) rfl)) (hw _ (List.mem_of_getElem? (i := 20) rfl)) (hw _ (List.mem_of_getElem? (i := 65) rfl)) (by decide) e61 o49_0 (argsL := []) (rest := []) (c_adm l Z a0 hw b11 b1 p0 p1 T49.heap o49_3 f52 f53 f54) 0 (by decide) (by decide) (by decide) (by decide) (by rw [hml]; rfl) (lenOf o_pd5 rfl) rfl (Nat.le_of_eq rfl) (hb hby at_51) (n := 54) rfl ?_
    intro v65 T65 L65 X65 q65
    obtain ⟨rfl, e65, rfl⟩ := q65
    have N66 := Fr.app N62 (Fr.nil n0)
    show Goes p e below s _ _ _ (T65.setTop (mkF m 54 #[.val (.long p0), .second, .val (.long p1), .second, .val (.long p2), .second, .val (.ref b1), .val (.ref b11), .val (.int (0 : Int32))] [(.int (o_adm p0 p1))]))
    refine o_iload X65 hx (hb hby at_54) (v := (0 : Int32)) rfl (n := 56) rfl ?_
    refine o_icmpN X65 hx (hb hby at_56) (XT.ii_ne_f (o_a0 hc39)) (n := 59) rfl ?_
    refine o_iconst X65 hx (hb hby at_59) (v := (1 : Int32)) rfl (n := 60) rfl ?_
    refine o_goto X65 hx (hb hby at_60) (by decide) (n := 64) (by decide) ?_
    exact o_nreturn X65 hx hret hlk (t := .boolean) (by simp) (hb hby at_64) (by decide) (by decide) e65 ⟨rfl, N66⟩
set_option maxRecDepth 65536 in
set_option maxHeartbeats 40000000 in
theorem comes_1 {Post : Tables → Env → Array Value → State → Outcome → State → Prop} (hpost : ∀ tb e args s v u, (limb_1_1.after args s (.returned v) u = true ∧ limb_1_2.after args s (.returned v) u = true ∧ True) → FrameEnd s (.returned v) u (Jvm.fieldLocs frame_1_writes args s ++ Jvm.arrayLocs frame_1_arrays args s ++ Jvm.staticLocs frame_1_statics s) 16 128 → Post tb e args s (.returned v) u) :
    ArmFor flags0 classFile x code maxLocals ret World_1 tables_1 room_1 Calls_1 rest_1 Pre_1 Post := by
  intro l hfl _ _ p e ha hc hk s m args below hf hA hF happ hP
  obtain ⟨hcalls, hrest, hpre⟩ := hP
  obtain ⟨-, -, -, hnamed, -, -, -, hat⟩ := (Spec.applies_iff hf).mp happ
  obtain ⟨hg, hn⟩ := and_e (Cond.before_iff.mp (show (Jvm.Cond.and given_1 narrow_1).before args s = true from hpre))
  obtain ⟨gv1, gv2⟩ := and_e hg
  obtain ⟨gv3, gv4⟩ := and_e gv2
  obtain ⟨gv5, gv6⟩ := and_e gv4
  obtain ⟨w0, w1, w2, rfl⟩ : ∃ w0 w1 w2 : Value, args = #[w0, w1, w2] := by
    have hs : args.size = 3 := by simpa [Cond.value, given_1] using gv1
    obtain ⟨L⟩ := args
    match L, hs with
    | [w0, w1, w2], _ => exact ⟨w0, w1, w2, rfl⟩
  have hw := fun d (hd : d ∈ tables_1) => atoms_spec (ws := Jvm.Cond.code x code maxLocals ret :: tables_1) hat d (List.mem_cons_of_mem _ hd)
  have hfit : Fit s := fun {y c} hc i hi => by
    obtain ⟨ha, rfl⟩ := Array.getElem?_eq_some_iff.mp hc
    have q := List.all_eq_true.mp ((Array.all_eq_true_iff_forall_mem.mp hF) _ (Array.getElem_mem ha)) i (List.mem_range.mpr hi)
    simpa [Array.getElem?_eq_getElem hi] using q
  obtain ⟨hsets, hown0⟩ := atoms_of _ (rest_1_c_eq ▸ (show rest_1_c.before _ s = true from hrest))
  have hr0 := Cond.before_iff.mp hown0
  obtain ⟨i0, ei0⟩ := isL_v gv3
  obtain rfl : w0 = (.long i0) := Option.some.inj ei0
  obtain ⟨i1, ei1⟩ := isL_v gv5
  obtain rfl : w1 = (.long i1) := Option.some.inj ei1
  obtain ⟨i2, ei2⟩ := isL_v gv6
  obtain rfl : w2 = (.long i2) := Option.some.inj ei2
  obtain ⟨d0, hd0⟩ := arr_v (Cond.before_iff.mp (hsets _ (List.mem_of_getElem? (i := 6) rfl)))
  have hS := Sta.start hd0 (Or.inr ⟨hw _ (List.mem_of_getElem? (i := 23) rfl), hsets _ (List.mem_of_getElem? (i := 2) rfl)⟩)
  obtain ⟨n, o, h1, h2, h3, _, L, rfl, ⟨rfl, N⟩, hq⟩ := o_law l s _ hw i0 i1 i2 s.heap s.heap.size (Nat.le_refl _) d0 hS p e ha hc hk s m _ below hf ((Spec.applies_iff_loose hf).mp happ).1 ⟨rfl, State.Warmed39.refl s, rfl⟩ trivial
  refine ⟨n, _, h1, h2, h3, hpost _ _ _ _ _ _ ⟨Cond.after_iff.mpr rfl, Cond.after_iff.mpr (eq_i res_at (Term.int_eval (1)) rfl), trivial⟩ ⟨hq.1, hq.2.1, (hq.2.2.sift fun y hy => Or.inr (N y hy)).mono (by decide) (by decide)⟩⟩
theorem main_1_1 : Claimed_1_1 := comes_1 fun _ _ _ _ _ _ h hF => ⟨h.1, hF⟩
theorem main_1_2 : Claimed_1_2 := comes_1 fun _ _ _ _ _ _ h hF => ⟨h.2.1, hF⟩
end Jvm.Pilot.@@N@@
namespace Jvm.Pilot.@@N@@
open Jvm Jvm.ClassFile Sem Op Lib Jvm.Free Jvm.Stand Jvm.Pilot.@@N@@.Jvm.D
/-! MADE BY PROGRAM (witnessworld.py) out of the Statement's table words and the real class files: 21 classes; the members and pool entries that the words name. The judged class is class 1, her method 1. -/
namespace start1
open Jvm.ClassFile
def u (s : String) : CpInfo := .utf8 (stringToUtf16 s)
/-- a pool by its gaps: so many unusable entries, then the entry; so many at the end -/
def gap : Nat → List CpInfo → List CpInfo
  | 0, r => r
  | n + 1, r => .unusable :: gap n r
def poolList (es : List (Nat × CpInfo)) (last : Nat) : List CpInfo := es.foldr (fun e r => gap e.1 (e.2 :: r)) (gap last [])
def pool (es : List (Nat × CpInfo)) (last : Nat) : Array CpInfo := ⟨poolList es last⟩
def fileOf (pool : Array CpInfo) (this : Nat) (attrs : Array Attribute := #[]) (ms : Array MethodInfo := #[]) (fl : Nat := 33) (sup : Nat := 0) (ifs : Array Nat := #[]) (fds : Array FieldInfo := #[]) : ClassFile where
  minorVersion := 0
  majorVersion := 65
  constantPool := pool
  accessFlags := fl
  thisClass := this
  superClass := sup
  interfaces := ifs
  fields := fds
  methods := ms
  attributes := attrs
def plain (name : String) (sup : Option ClassId) : Class where
  name := name
  kind := .ordinary
  loader := none
  accessFlags := 33
  super := sup
  interfaces := #[]
  cf := none
  fields := #[]
  methods := #[]
  instanceTypes := #[]
  staticTypes := #[]
  resolved := #[]
  callSites := []
  init := .initialized
  statics := none
  mirror := none

def pool0 : Array CpInfo := pool [(5, u "<init>"), (0, u "()V"), (1, .class_ 10), (1, u "java/lang/Object")] 113

def k0c0 : Code := { maxStack := 0, maxLocals := 1, code := object_method_1_code, exceptionTable := #[], attributes := #[] }
def k0m0 : Method := { name := "<init>", desc := "()V", sig := { parameters := [], returnType := none }, accessFlags := 1, code := some k0c0 }
/-- java/lang/Object -/
def k0 : Class := { plain "java/lang/Object" none with
  accessFlags := 33
  interfaces := #[]
  cf := some (fileOf pool0 8 #[] #[{ accessFlags := 1, nameIndex := 5, descriptorIndex := 6, attributes := #[] }] 33 0 #[] #[])
  fields := #[]
  methods := #[k0m0]
  instanceTypes := #[]
  staticTypes := #[]
  resolved := Array.replicate 124 none
  statics := none }

def pool1 : Array CpInfo := pool [(2, .class_ 4), (0, .nameAndType 5 6), (0, u "java/lang/Object"), (0, u "<init>"), (0, u "()V"), (0, .class_ 8), (0, u "com/example/overbook_guard/overbookguard/pool/Booked"), (0, .methodref 7 10), (0, .nameAndType 5 11), (0, u "(JJ)V"), (0, .class_ 13), (0, u "com/example/overbook_guard/overbookguard/gate/Released"), (0, .class_ 15), (0, u "java/util/ArrayList"), (0, .methodref 14 3), (0, .methodref 12 18), (0, .nameAndType 5 19), (0, u "(JLjava/util/Optional;Lcom/example/overbook_guard/overbookguard/pool/Booked;Ljava/util/List;)V"), (0, .methodref 21 22), (0, .class_ 23), (0, .nameAndType 24 25), (0, u "java/lang/Math"), (0, u "max"), (0, u "(JJ)J"), (0, .methodref 12 27), (0, .nameAndType 28 29), (0, u "admission"), (0, u "()Z"), (0, .class_ 31), (0, u "com/example/overbook_guard/overbookguard/gate/ReleasedAdmissionPinLaw"), (2, u "law"), (0, u "(JJJ)Z")] 3

def k1m0 : Method := { name := "<init>", desc := "()V", sig := { parameters := [], returnType := none }, accessFlags := 2, code := none }
def k1c1 : Code := { maxStack := 8, maxLocals := 9, code := code, exceptionTable := #[], attributes := #[] }
def k1m1 : Method := { name := "law", desc := "(JJJ)Z", sig := { parameters := [.long, .long, .long], returnType := some .boolean }, accessFlags := 9, code := some k1c1 }
/-- com/example/overbook_guard/overbookguard/gate/ReleasedAdmissionPinLaw -/
def k1 : Class := { plain "com/example/overbook_guard/overbookguard/gate/ReleasedAdmissionPinLaw" (some 0) with
  accessFlags := 49
  interfaces := #[]
  cf := some (fileOf pool1 30 #[] #[{ accessFlags := 2, nameIndex := 5, descriptorIndex := 6, attributes := #[] }, { accessFlags := 9, nameIndex := 34, descriptorIndex := 35, attributes := #[] }] 49 2 #[] #[])
  fields := #[]
  methods := #[k1m0, k1m1]
  instanceTypes := #[]
  staticTypes := #[]
  resolved := Array.replicate 39 none
  statics := none }

def pool2 : Array CpInfo := pool [(1, .methodref 2 3), (0, .class_ 4), (0, .nameAndType 5 6), (0, u "java/lang/Object"), (0, u "<init>"), (0, u "()V"), (0, .class_ 8), (0, u "java/lang/Record")] 13

def k2c0 : Code := { maxStack := 1, maxLocals := 1, code := jdk_30_method_1_code, exceptionTable := #[], attributes := #[] }
def k2m0 : Method := { name := "<init>", desc := "()V", sig := { parameters := [], returnType := none }, accessFlags := 4, code := some k2c0 }
/-- java/lang/Record -/
def k2 : Class := { plain "java/lang/Record" (some 0) with
  accessFlags := 1057
  interfaces := #[]
  cf := some (fileOf pool2 7 #[] #[{ accessFlags := 4, nameIndex := 5, descriptorIndex := 6, attributes := #[] }] 1057 2 #[] #[])
  fields := #[]
  methods := #[k2m0]
  instanceTypes := #[]
  staticTypes := #[]
  resolved := Array.replicate 22 none
  statics := none }

def pool3 : Array CpInfo := pool [(1, .methodref 2 3), (0, .class_ 4), (0, .nameAndType 5 6), (0, u "java/lang/Record"), (0, u "<init>"), (0, u "()V"), (0, .fieldref 8 9), (0, .class_ 10), (0, .nameAndType 11 12), (0, u "com/example/overbook_guard/overbookguard/pool/Booked"), (0, u "cores"), (0, u "J"), (0, .fieldref 8 14), (0, .nameAndType 15 12), (0, u "gpus"), (12, u "(JJ)V"), (6, u "()J")] 21

def k3c0 : Code := { maxStack := 3, maxLocals := 5, code := prog_42_method_1_code, exceptionTable := #[], attributes := #[] }
def k3m0 : Method := { name := "<init>", desc := "(JJ)V", sig := { parameters := [.long, .long], returnType := none }, accessFlags := 1, code := some k3c0 }
def k3c1 : Code := { maxStack := 2, maxLocals := 1, code := prog_42_method_5_code, exceptionTable := #[], attributes := #[] }
def k3m1 : Method := { name := "cores", desc := "()J", sig := { parameters := [], returnType := some .long }, accessFlags := 1, code := some k3c1 }
def k3c2 : Code := { maxStack := 2, maxLocals := 1, code := prog_42_method_6_code, exceptionTable := #[], attributes := #[] }
def k3m2 : Method := { name := "gpus", desc := "()J", sig := { parameters := [], returnType := some .long }, accessFlags := 1, code := some k3c2 }
/-- com/example/overbook_guard/overbookguard/pool/Booked -/
def k3 : Class := { plain "com/example/overbook_guard/overbookguard/pool/Booked" (some 2) with
  accessFlags := 49
  interfaces := #[]
  cf := some (fileOf pool3 8 #[] #[{ accessFlags := 1, nameIndex := 5, descriptorIndex := 28, attributes := #[] }, { accessFlags := 1, nameIndex := 11, descriptorIndex := 35, attributes := #[] }, { accessFlags := 1, nameIndex := 15, descriptorIndex := 35, attributes := #[] }] 49 2 #[] #[{ accessFlags := 18, nameIndex := 11, descriptorIndex := 12, attributes := #[] }, { accessFlags := 18, nameIndex := 15, descriptorIndex := 12, attributes := #[] }])
  fields := #[{ name := "cores", type := .long, accessFlags := 18, slot := 0, constantValue := 0 }, { name := "gpus", type := .long, accessFlags := 18, slot := 1, constantValue := 0 }]
  methods := #[k3m0, k3m1, k3m2]
  instanceTypes := #[.long, .long]
  staticTypes := #[]
  resolved := Array.replicate 57 none
  statics := none }

def pool4 : Array CpInfo := pool [(1, .methodref 2 3), (0, .class_ 4), (0, .nameAndType 5 6), (0, u "java/lang/Record"), (0, u "<init>"), (0, u "()V"), (0, .fieldref 8 9), (0, .class_ 10), (0, .nameAndType 11 12), (0, u "com/example/overbook_guard/overbookguard/gate/Released"), (0, u "seq"), (0, u "J"), (0, .fieldref 8 14), (0, .nameAndType 15 16), (0, u "booking"), (0, u "Ljava/util/Optional;"), (0, .fieldref 8 18), (0, .nameAndType 19 20), (0, u "change"), (0, u "Lcom/example/overbook_guard/overbookguard/pool/Booked;"), (0, .fieldref 8 22), (0, .nameAndType 23 24), (0, u "pools"), (0, u "Ljava/util/List;"), (0, .methodref 26 27), (0, .class_ 28), (0, .nameAndType 29 30), (0, u "com/example/overbook_guard/overbookguard/pool/Booked"), (0, u "cores"), (0, u "()J"), (0, .methodref 26 32), (0, .nameAndType 33 30), (0, u "gpus"), (15, u "(JLjava/util/Optional;Lcom/example/overbook_guard/overbookguard/pool/Booked;Ljava/util/List;)V"), (4, u "admission"), (0, u "()Z")] 32

def k4c0 : Code := { maxStack := 3, maxLocals := 6, code := prog_6_method_1_code, exceptionTable := #[], attributes := #[] }
def k4m0 : Method := { name := "<init>", desc := "(JLjava/util/Optional;Lcom/example/overbook_guard/overbookguard/pool/Booked;Ljava/util/List;)V", sig := { parameters := [.long, (.object "java/util/Optional"), (.object "com/example/overbook_guard/overbookguard/pool/Booked"), (.object "java/util/List")], returnType := none }, accessFlags := 1, code := some k4c0 }
def k4c1 : Code := { maxStack := 4, maxLocals := 1, code := prog_6_method_2_code, exceptionTable := #[], attributes := #[] }
def k4m1 : Method := { name := "admission", desc := "()Z", sig := { parameters := [], returnType := some .boolean }, accessFlags := 1, code := some k4c1 }
/-- com/example/overbook_guard/overbookguard/gate/Released -/
def k4 : Class := { plain "com/example/overbook_guard/overbookguard/gate/Released" (some 2) with
  accessFlags := 49
  interfaces := #[]
  cf := some (fileOf pool4 8 #[] #[{ accessFlags := 1, nameIndex := 5, descriptorIndex := 49, attributes := #[] }, { accessFlags := 1, nameIndex := 54, descriptorIndex := 55, attributes := #[] }] 49 2 #[] #[{ accessFlags := 18, nameIndex := 11, descriptorIndex := 12, attributes := #[] }, { accessFlags := 18, nameIndex := 15, descriptorIndex := 16, attributes := #[] }, { accessFlags := 18, nameIndex := 19, descriptorIndex := 20, attributes := #[] }, { accessFlags := 18, nameIndex := 23, descriptorIndex := 24, attributes := #[] }])
  fields := #[{ name := "seq", type := .long, accessFlags := 18, slot := 0, constantValue := 0 }, { name := "booking", type := (.object "java/util/Optional"), accessFlags := 18, slot := 1, constantValue := 0 }, { name := "change", type := (.object "com/example/overbook_guard/overbookguard/pool/Booked"), accessFlags := 18, slot := 2, constantValue := 0 }, { name := "pools", type := (.object "java/util/List"), accessFlags := 18, slot := 3, constantValue := 0 }]
  methods := #[k4m0, k4m1]
  instanceTypes := #[.long, (.object "java/util/Optional"), (.object "com/example/overbook_guard/overbookguard/pool/Booked"), (.object "java/util/List")]
  staticTypes := #[]
  resolved := Array.replicate 88 none
  statics := none }

def pool5 : Array CpInfo := pool [(8, .class_ 10), (1, u "java/lang/Iterable"), (24, .class_ 36), (0, u "java/lang/Object")] 25

/-- java/lang/Iterable -/
def k5 : Class := { plain "java/lang/Iterable" (some 0) with
  accessFlags := 1537
  interfaces := #[]
  cf := some (fileOf pool5 8 #[] #[] 1537 35 #[] #[])
  fields := #[]
  methods := #[]
  instanceTypes := #[]
  staticTypes := #[]
  resolved := Array.replicate 62 none
  statics := none }

def pool6 : Array CpInfo := pool [(10, .class_ 12), (1, u "java/util/Collection"), (47, .class_ 61), (0, u "java/lang/Object"), (0, .class_ 63), (0, u "java/lang/Iterable")] 51

/-- java/util/Collection -/
def k6 : Class := { plain "java/util/Collection" (some 0) with
  accessFlags := 1537
  interfaces := #[5]
  cf := some (fileOf pool6 10 #[] #[] 1537 60 #[62] #[])
  fields := #[]
  methods := #[]
  instanceTypes := #[]
  staticTypes := #[]
  resolved := Array.replicate 115 none
  statics := none }

def pool7 : Array CpInfo := pool [(1, .methodref 2 3), (0, .class_ 4), (0, .nameAndType 5 6), (0, u "java/lang/Object"), (0, u "<init>"), (0, u "()V"), (1, .class_ 10), (1, u "java/util/AbstractCollection"), (66, .class_ 78), (0, u "java/util/Collection")] 81

def k7c0 : Code := { maxStack := 1, maxLocals := 1, code := jdk_22_method_1_code, exceptionTable := #[], attributes := #[] }
def k7m0 : Method := { name := "<init>", desc := "()V", sig := { parameters := [], returnType := none }, accessFlags := 4, code := some k7c0 }
/-- java/util/AbstractCollection -/
def k7 : Class := { plain "java/util/AbstractCollection" (some 0) with
  accessFlags := 1057
  interfaces := #[6]
  cf := some (fileOf pool7 8 #[] #[{ accessFlags := 4, nameIndex := 5, descriptorIndex := 6, attributes := #[] }] 1057 2 #[77] #[])
  fields := #[]
  methods := #[k7m0]
  instanceTypes := #[]
  staticTypes := #[]
  resolved := Array.replicate 160 none
  statics := none }

def pool8 : Array CpInfo := pool [(8, .class_ 10), (1, u "java/util/SequencedCollection"), (15, .class_ 27), (0, u "java/lang/Object"), (0, .class_ 29), (0, u "java/util/Collection")] 27

/-- java/util/SequencedCollection -/
def k8 : Class := { plain "java/util/SequencedCollection" (some 0) with
  accessFlags := 1537
  interfaces := #[6]
  cf := some (fileOf pool8 8 #[] #[] 1537 26 #[28] #[])
  fields := #[]
  methods := #[]
  instanceTypes := #[]
  staticTypes := #[]
  resolved := Array.replicate 57 none
  statics := none }

def pool9 : Array CpInfo := pool [(8, .class_ 10), (1, u "java/util/List"), (92, .class_ 104), (0, u "java/lang/Object"), (15, .class_ 121), (0, u "java/util/SequencedCollection")] 129

/-- java/util/List -/
def k9 : Class := { plain "java/util/List" (some 0) with
  accessFlags := 1537
  interfaces := #[8]
  cf := some (fileOf pool9 8 #[] #[] 1537 103 #[120] #[])
  fields := #[]
  methods := #[]
  instanceTypes := #[]
  staticTypes := #[]
  resolved := Array.replicate 251 none
  statics := none }

def pool10 : Array CpInfo := pool [(1, .methodref 2 3), (0, .class_ 4), (0, .nameAndType 5 6), (0, u "java/util/AbstractCollection"), (0, u "<init>"), (0, u "()V"), (0, .fieldref 8 9), (0, .class_ 10), (0, .nameAndType 11 12), (0, u "java/util/AbstractList"), (0, u "modCount"), (0, u "I"), (64, .class_ 78), (0, u "java/util/AbstractList$Itr"), (3, .class_ 83), (0, u "java/util/AbstractList$ListItr"), (9, .class_ 94), (0, u "java/util/AbstractList$RandomAccessSubList"), (3, .class_ 99), (0, u "java/util/AbstractList$SubList"), (33, .class_ 134), (0, u "java/util/List"), (73, .class_ 209), (0, u "java/util/AbstractList$SubList$1"), (0, .class_ 211), (0, u "java/util/AbstractList$RandomAccessSpliterator")] 6

def k10c0 : Code := { maxStack := 2, maxLocals := 1, code := jdk_39_method_1_code, exceptionTable := #[], attributes := #[] }
def k10m0 : Method := { name := "<init>", desc := "()V", sig := { parameters := [], returnType := none }, accessFlags := 4, code := some k10c0 }
/-- java/util/AbstractList -/
def k10 : Class := { plain "java/util/AbstractList" (some 7) with
  accessFlags := 1057
  interfaces := #[9]
  cf := some (fileOf pool10 8 #[.nestMembers #[93, 98, 208, 210, 82, 77]] #[{ accessFlags := 4, nameIndex := 5, descriptorIndex := 6, attributes := #[] }] 1057 2 #[133] #[{ accessFlags := 132, nameIndex := 11, descriptorIndex := 12, attributes := #[] }])
  fields := #[{ name := "modCount", type := .int, accessFlags := 132, slot := 0, constantValue := 0 }]
  methods := #[k10m0]
  instanceTypes := #[.int]
  staticTypes := #[]
  resolved := Array.replicate 218 none
  statics := none }

def pool11 : Array CpInfo := pool [(1, .class_ 2), (0, u "java/util/RandomAccess"), (0, .class_ 4), (0, u "java/lang/Object")] 2

/-- java/util/RandomAccess -/
def k11 : Class := { plain "java/util/RandomAccess" (some 0) with
  accessFlags := 1537
  interfaces := #[]
  cf := some (fileOf pool11 1 #[] #[] 1537 3 #[] #[])
  fields := #[]
  methods := #[]
  instanceTypes := #[]
  staticTypes := #[]
  resolved := Array.replicate 7 none
  statics := none }

def pool12 : Array CpInfo := pool [(1, .class_ 2), (0, u "java/lang/Cloneable"), (0, .class_ 4), (0, u "java/lang/Object")] 2

/-- java/lang/Cloneable -/
def k12 : Class := { plain "java/lang/Cloneable" (some 0) with
  accessFlags := 1537
  interfaces := #[]
  cf := some (fileOf pool12 1 #[] #[] 1537 3 #[] #[])
  fields := #[]
  methods := #[]
  instanceTypes := #[]
  staticTypes := #[]
  resolved := Array.replicate 7 none
  statics := none }

def pool13 : Array CpInfo := pool [(1, .class_ 2), (0, u "java/io/Serializable"), (0, .class_ 4), (0, u "java/lang/Object")] 2

/-- java/io/Serializable -/
def k13 : Class := { plain "java/io/Serializable" (some 0) with
  accessFlags := 1537
  interfaces := #[]
  cf := some (fileOf pool13 1 #[] #[] 1537 3 #[] #[])
  fields := #[]
  methods := #[]
  instanceTypes := #[]
  staticTypes := #[]
  resolved := Array.replicate 7 none
  statics := none }

def pool14 : Array CpInfo := pool [(1, .methodref 2 3), (0, .class_ 4), (0, .nameAndType 5 6), (0, u "java/util/AbstractList"), (0, u "<init>"), (0, u "()V"), (2, .fieldref 10 11), (0, .class_ 12), (0, .nameAndType 13 14), (0, u "java/util/ArrayList"), (0, u "elementData"), (0, u "[Ljava/lang/Object;"), (2, u "EMPTY_ELEMENTDATA"), (21, .fieldref 10 40), (0, .nameAndType 41 14), (0, u "DEFAULTCAPACITY_EMPTY_ELEMENTDATA"), (8, u "size"), (0, u "I"), (96, .class_ 149), (0, u "java/util/List"), (112, .class_ 263), (0, u "java/util/ArrayList$ListItr"), (3, .class_ 268), (0, u "java/util/ArrayList$Itr"), (7, .class_ 277), (0, u "java/util/ArrayList$SubList"), (12, .class_ 291), (0, u "java/util/ArrayList$ArrayListSpliterator"), (37, .class_ 330), (0, u "java/util/RandomAccess"), (0, .class_ 332), (0, u "java/lang/Cloneable"), (0, .class_ 334), (0, u "java/io/Serializable"), (0, u "serialVersionUID"), (0, u "J"), (3, u "DEFAULT_CAPACITY"), (159, .class_ 501), (0, u "java/util/ArrayList$SubList$2"), (0, .class_ 503), (0, u "java/util/ArrayList$SubList$1")] 5

def k14c0 : Code := { maxStack := 2, maxLocals := 1, code := jdk_38_method_2_code, exceptionTable := #[], attributes := #[] }
def k14m0 : Method := { name := "<init>", desc := "()V", sig := { parameters := [], returnType := none }, accessFlags := 1, code := some k14c0 }
/-- java/util/ArrayList -/
def k14 : Class := { plain "java/util/ArrayList" (some 10) with
  accessFlags := 33
  interfaces := #[9, 11, 12, 13]
  cf := some (fileOf pool14 10 #[.nestMembers #[290, 276, 500, 502, 262, 267]] #[{ accessFlags := 1, nameIndex := 5, descriptorIndex := 6, attributes := #[] }] 33 2 #[148, 329, 331, 333] #[{ accessFlags := 26, nameIndex := 335, descriptorIndex := 336, attributes := #[] }, { accessFlags := 26, nameIndex := 340, descriptorIndex := 51, attributes := #[] }, { accessFlags := 26, nameIndex := 17, descriptorIndex := 14, attributes := #[] }, { accessFlags := 26, nameIndex := 41, descriptorIndex := 14, attributes := #[] }, { accessFlags := 128, nameIndex := 13, descriptorIndex := 14, attributes := #[] }, { accessFlags := 2, nameIndex := 50, descriptorIndex := 51, attributes := #[] }])
  fields := #[{ name := "serialVersionUID", type := .long, accessFlags := 26, slot := 0, constantValue := 0 }, { name := "DEFAULT_CAPACITY", type := .int, accessFlags := 26, slot := 1, constantValue := 0 }, { name := "EMPTY_ELEMENTDATA", type := (.array (.object "java/lang/Object")), accessFlags := 26, slot := 2, constantValue := 0 }, { name := "DEFAULTCAPACITY_EMPTY_ELEMENTDATA", type := (.array (.object "java/lang/Object")), accessFlags := 26, slot := 3, constantValue := 0 }, { name := "elementData", type := (.array (.object "java/lang/Object")), accessFlags := 128, slot := 1, constantValue := 0 }, { name := "size", type := .int, accessFlags := 2, slot := 2, constantValue := 0 }]
  methods := #[k14m0]
  instanceTypes := #[.int, (.array (.object "java/lang/Object")), .int]
  staticTypes := #[.long, .int, (.array (.object "java/lang/Object")), (.array (.object "java/lang/Object"))]
  resolved := Array.replicate 509 none
  statics := some 0 }

def pool15 : Array CpInfo := pool [(1, .class_ 2), (0, u "java/lang/Math"), (1, .class_ 6), (1, u "java/lang/Object"), (0, u "<init>"), (0, u "()V"), (89, .class_ 100), (1, u "java/lang/Math$RandomNumberGeneratorHolder"), (20, u "(JJ)J"), (50, u "negativeZeroFloatBits"), (0, u "J"), (2, u "negativeZeroDoubleBits"), (21, u "max"), (46, u "$assertionsDisabled"), (0, u "Z"), (91, u "twoToTheDoubleScaleDown"), (0, u "D"), (4, u "twoToTheDoubleScaleUp"), (9, u "E"), (3, u "PI"), (2, u "TAU"), (2, u "DEGREES_TO_RADIANS"), (0, u "RADIANS_TO_DEGREES")] 94

def k15m0 : Method := { name := "<init>", desc := "()V", sig := { parameters := [], returnType := none }, accessFlags := 2, code := none }
def k15c1 : Code := { maxStack := 4, maxLocals := 4, code := jdk_29_method_66_code, exceptionTable := #[], attributes := #[] }
def k15m1 : Method := { name := "max", desc := "(JJ)J", sig := { parameters := [.long, .long], returnType := some .long }, accessFlags := 9, code := some k15c1 }
/-- java/lang/Math -/
def k15 : Class := { plain "java/lang/Math" (some 0) with
  accessFlags := 49
  interfaces := #[]
  cf := some (fileOf pool15 1 #[.nestMembers #[98]] #[{ accessFlags := 2, nameIndex := 7, descriptorIndex := 8, attributes := #[] }, { accessFlags := 9, nameIndex := 198, descriptorIndex := 121, attributes := #[] }] 49 4 #[] #[{ accessFlags := 25, nameIndex := 354, descriptorIndex := 339, attributes := #[] }, { accessFlags := 25, nameIndex := 358, descriptorIndex := 339, attributes := #[] }, { accessFlags := 25, nameIndex := 361, descriptorIndex := 339, attributes := #[] }, { accessFlags := 26, nameIndex := 364, descriptorIndex := 339, attributes := #[] }, { accessFlags := 26, nameIndex := 365, descriptorIndex := 339, attributes := #[] }, { accessFlags := 26, nameIndex := 172, descriptorIndex := 173, attributes := #[] }, { accessFlags := 26, nameIndex := 176, descriptorIndex := 173, attributes := #[] }, { accessFlags := 8, nameIndex := 344, descriptorIndex := 339, attributes := #[] }, { accessFlags := 8, nameIndex := 338, descriptorIndex := 339, attributes := #[] }, { accessFlags := 4120, nameIndex := 245, descriptorIndex := 246, attributes := #[] }])
  fields := #[{ name := "E", type := .double, accessFlags := 25, slot := 0, constantValue := 0 }, { name := "PI", type := .double, accessFlags := 25, slot := 1, constantValue := 0 }, { name := "TAU", type := .double, accessFlags := 25, slot := 2, constantValue := 0 }, { name := "DEGREES_TO_RADIANS", type := .double, accessFlags := 26, slot := 3, constantValue := 0 }, { name := "RADIANS_TO_DEGREES", type := .double, accessFlags := 26, slot := 4, constantValue := 0 }, { name := "negativeZeroFloatBits", type := .long, accessFlags := 26, slot := 5, constantValue := 0 }, { name := "negativeZeroDoubleBits", type := .long, accessFlags := 26, slot := 6, constantValue := 0 }, { name := "twoToTheDoubleScaleUp", type := .double, accessFlags := 8, slot := 7, constantValue := 0 }, { name := "twoToTheDoubleScaleDown", type := .double, accessFlags := 8, slot := 8, constantValue := 0 }, { name := "$assertionsDisabled", type := .boolean, accessFlags := 4120, slot := 9, constantValue := 0 }]
  methods := #[k15m0, k15m1]
  instanceTypes := #[]
  staticTypes := #[.double, .double, .double, .double, .double, .long, .long, .double, .double, .boolean]
  resolved := Array.replicate 460 none
  statics := none }

/-- the primitive byte -/
def k16 : Class := { plain "byte" none with kind := .primitive 'B', accessFlags := 0x411 }
/-- [B -/
def k17 : Class := { plain "[B" (some 0) with kind := .array 16 .byte, interfaces := #[12, 13], accessFlags := 1041 }

/-- the primitive int -/
def k18 : Class := { plain "int" none with kind := .primitive 'I', accessFlags := 0x411 }
/-- [I -/
def k19 : Class := { plain "[I" (some 0) with kind := .array 18 .int, interfaces := #[12, 13], accessFlags := 1041 }

/-- [Ljava/lang/Object; -/
def k20 : Class := { plain "[Ljava/lang/Object;" (some 0) with kind := .array 0 (.object "java/lang/Object"), interfaces := #[12, 13], accessFlags := 1041 }

def heap : Heap := #[{ cls := 14, slots := #[.long 0, .int 0, .ref 1, .ref 2], vm := .statics 14 },
  { cls := 20, slots := #[], vm := .none },
  { cls := 20, slots := #[], vm := .none }]
def classes : Array Class := #[k0, k1, k2, k3, k4, k5, k6, k7, k8, k9, k10, k11, k12, k13, k14, k15, k16, k17, k18, k19, k20]
def interned : List (Array UInt16 × Addr) := []
def slotsUsed : Nat := 4
def theMethod : MethodId := ⟨1, 1⟩
def args0 : Array Value := #[.long 5, .long 5, .long 5]
def aboutOver (below : List Frame) : State where
  vm := { classes := classes, interned := interned.toArray }
  heap := heap
  slotsUsed := slotsUsed
  threads := #[{ frames := .invoking theMethod args0 :: below }]
def below0 : List Frame := [.native { method := ⟨0, 0⟩, args := #[] }]
def about1 : State := aboutOver below0
def p0 : Program := .bare "" "" ""
def e0 : Env := launch0.env 0 0 0
theorem w_frames : about1.frames = Frame.invoking theMethod args0 :: below0 := rfl
set_option maxRecDepth 65536 in
theorem w_args : argsFit about1.vm theMethod args0 = true := by decide +kernel
set_option maxRecDepth 65536 in
theorem w_heap : heapFits about1 = true := by decide +kernel
set_option maxRecDepth 65536 in
theorem w_runnable : about1.curStatus? = some .runnable := by decide +kernel
set_option maxRecDepth 65536 in
theorem w_alone : about1.alone = true := by decide +kernel
set_option maxRecDepth 65536 in
theorem w_named : about1.methodNamed? x = some theMethod := by decide +kernel
set_option maxRecDepth 65536 in
theorem w_hears : about1.hears theMethod below0 = true := by decide +kernel
set_option maxRecDepth 65536 in
theorem w_ripe : about1.ripe theMethod args0 below0 = true := by decide +kernel
theorem w_running : about1.status = .running := rfl
set_option maxRecDepth 65536 in
theorem w_room : about1.hasRoom e0.platform room_1 = true :=
  launch0.hasRoom_least _ room_1 (by decide +kernel) (by decide +kernel) (by decide +kernel) (by decide +kernel) (by decide +kernel) (by decide +kernel)
theorem allAtoms_all (ts : List Jvm.Cond) (a : Array Jvm.Value) (st : Jvm.State) : (allAtoms ts).before a st = ts.all (fun c => c.before a st) := by
  induction ts with
  | nil => rfl
  | cons c t ih =>
    show (Jvm.Cond.and c (allAtoms t)).before a st = _
    rw [Jvm.Cond.before_and, ih, List.all_cons]
def words1 : List Jvm.Cond := Jvm.Cond.code x code maxLocals ret :: tables_1
/-- a 'code' word, met by the world's own term for the bytes: nothing is compared byte by byte -/
theorem code_word {y : MethodName} {bytes : ByteArray} {mx : Nat} {rt : Option FieldType} {a : Array Value} {s : State} {m : MethodId} {meth : Method} {c : Code} (h1 : s.methodNamed? y = some m) (h2 : s.vm.method? m = some meth) (h3 : meth.code = some c) (h4 : c.code = bytes)
    (h5 : (c.maxLocals == mx && c.exceptionTable.isEmpty && decide (c.maxStack ≤ mostOperands) && decide (meth.sig.returnType = rt) && !meth.locks && decide (parseMethodDescriptor y.desc = some meth.sig)) = true) : (Jvm.Cond.code y bytes mx rt).before a s = true := by
  simp only [Bool.and_eq_true, beq_iff_eq, Bool.not_eq_true', decide_eq_true_eq] at h5
  obtain ⟨⟨⟨⟨⟨g1, g2⟩, g3⟩, g4⟩, g5⟩, g6⟩ := h5
  simp [Cond.before, Cond.holds, Cond.value, h1, h2, h3, h4, g1, g2, g3, g4, g5, g6]
def isCode : Jvm.Cond → Bool
  | .code _ _ _ _ => true
  | _ => false
theorem all_split {L : List Jvm.Cond} {P : Jvm.Cond → Bool} (h1 : L.all (fun c => isCode c || P c) = true) (h2 : ∀ c ∈ L.filter isCode, P c = true) : L.all P = true := by
  refine List.all_eq_true.mpr fun c hc => ?_
  have h := List.all_eq_true.mp h1 c hc
  rcases Bool.eq_false_or_eq_true (isCode c) with hi | hi
  · exact h2 c (List.mem_filter.mpr ⟨hc, hi⟩)
  · simpa [hi] using h
set_option maxRecDepth 65536 in
theorem w_c0 : (Jvm.Cond.code x code maxLocals ret).before args0 about1 = true := code_word (m := ⟨1, 1⟩) (meth := k1m1) (c := k1c1) (by decide +kernel) rfl rfl rfl (by decide +kernel)
set_option maxRecDepth 65536 in
theorem w_c1 : (Jvm.Cond.code ({ cls := "com/example/overbook_guard/overbookguard/pool/Booked", name := "<init>", desc := "(JJ)V" } : Jvm.MethodName) prog_42_method_1_code (5 : Nat) (Option.none : Option Jvm.ClassFile.FieldType)).before args0 about1 = true := code_word (m := ⟨3, 0⟩) (meth := k3m0) (c := k3c0) (by decide +kernel) rfl rfl rfl (by decide +kernel)
set_option maxRecDepth 65536 in
theorem w_c2 : (Jvm.Cond.code ({ cls := "java/lang/Record", name := "<init>", desc := "()V" } : Jvm.MethodName) jdk_30_method_1_code (1 : Nat) (Option.none : Option Jvm.ClassFile.FieldType)).before args0 about1 = true := code_word (m := ⟨2, 0⟩) (meth := k2m0) (c := k2c0) (by decide +kernel) rfl rfl rfl (by decide +kernel)
set_option maxRecDepth 65536 in
theorem w_c3 : (Jvm.Cond.code ({ cls := "java/lang/Object", name := "<init>", desc := "()V" } : Jvm.MethodName) object_method_1_code (1 : Nat) (Option.none : Option Jvm.ClassFile.FieldType)).before args0 about1 = true := code_word (m := ⟨0, 0⟩) (meth := k0m0) (c := k0c0) (by decide +kernel) rfl rfl rfl (by decide +kernel)
set_option maxRecDepth 65536 in
theorem w_c4 : (Jvm.Cond.code ({ cls := "java/util/ArrayList", name := "<init>", desc := "()V" } : Jvm.MethodName) jdk_38_method_2_code (1 : Nat) (Option.none : Option Jvm.ClassFile.FieldType)).before args0 about1 = true := code_word (m := ⟨14, 0⟩) (meth := k14m0) (c := k14c0) (by decide +kernel) rfl rfl rfl (by decide +kernel)
set_option maxRecDepth 65536 in
theorem w_c5 : (Jvm.Cond.code ({ cls := "java/util/AbstractList", name := "<init>", desc := "()V" } : Jvm.MethodName) jdk_39_method_1_code (1 : Nat) (Option.none : Option Jvm.ClassFile.FieldType)).before args0 about1 = true := code_word (m := ⟨10, 0⟩) (meth := k10m0) (c := k10c0) (by decide +kernel) rfl rfl rfl (by decide +kernel)
set_option maxRecDepth 65536 in
theorem w_c6 : (Jvm.Cond.code ({ cls := "java/util/AbstractCollection", name := "<init>", desc := "()V" } : Jvm.MethodName) jdk_22_method_1_code (1 : Nat) (Option.none : Option Jvm.ClassFile.FieldType)).before args0 about1 = true := code_word (m := ⟨7, 0⟩) (meth := k7m0) (c := k7c0) (by decide +kernel) rfl rfl rfl (by decide +kernel)
set_option maxRecDepth 65536 in
theorem w_c7 : (Jvm.Cond.code ({ cls := "com/example/overbook_guard/overbookguard/gate/Released", name := "<init>", desc := "(JLjava/util/Optional;Lcom/example/overbook_guard/overbookguard/pool/Booked;Ljava/util/List;)V" } : Jvm.MethodName) prog_6_method_1_code (6 : Nat) (Option.none : Option Jvm.ClassFile.FieldType)).before args0 about1 = true := code_word (m := ⟨4, 0⟩) (meth := k4m0) (c := k4c0) (by decide +kernel) rfl rfl rfl (by decide +kernel)
set_option maxRecDepth 65536 in
theorem w_c8 : (Jvm.Cond.code ({ cls := "java/lang/Math", name := "max", desc := "(JJ)J" } : Jvm.MethodName) jdk_29_method_66_code (4 : Nat) (Option.some Jvm.ClassFile.FieldType.long)).before args0 about1 = true := code_word (m := ⟨15, 1⟩) (meth := k15m1) (c := k15c1) (by decide +kernel) rfl rfl rfl (by decide +kernel)
set_option maxRecDepth 65536 in
theorem w_c9 : (Jvm.Cond.code ({ cls := "com/example/overbook_guard/overbookguard/gate/Released", name := "admission", desc := "()Z" } : Jvm.MethodName) prog_6_method_2_code (1 : Nat) (Option.some Jvm.ClassFile.FieldType.boolean)).before args0 about1 = true := code_word (m := ⟨4, 1⟩) (meth := k4m1) (c := k4c1) (by decide +kernel) rfl rfl rfl (by decide +kernel)
set_option maxRecDepth 65536 in
theorem w_c10 : (Jvm.Cond.code ({ cls := "com/example/overbook_guard/overbookguard/pool/Booked", name := "cores", desc := "()J" } : Jvm.MethodName) prog_42_method_5_code (1 : Nat) (Option.some Jvm.ClassFile.FieldType.long)).before args0 about1 = true := code_word (m := ⟨3, 1⟩) (meth := k3m1) (c := k3c1) (by decide +kernel) rfl rfl rfl (by decide +kernel)
set_option maxRecDepth 65536 in
theorem w_c11 : (Jvm.Cond.code ({ cls := "com/example/overbook_guard/overbookguard/pool/Booked", name := "gpus", desc := "()J" } : Jvm.MethodName) prog_42_method_6_code (1 : Nat) (Option.some Jvm.ClassFile.FieldType.long)).before args0 about1 = true := code_word (m := ⟨3, 2⟩) (meth := k3m2) (c := k3c2) (by decide +kernel) rfl rfl rfl (by decide +kernel)
def codes1 : List Jvm.Cond := [Jvm.Cond.code x code maxLocals ret, Jvm.Cond.code ({ cls := "com/example/overbook_guard/overbookguard/pool/Booked", name := "<init>", desc := "(JJ)V" } : Jvm.MethodName) prog_42_method_1_code (5 : Nat) (Option.none : Option Jvm.ClassFile.FieldType), Jvm.Cond.code ({ cls := "java/lang/Record", name := "<init>", desc := "()V" } : Jvm.MethodName) jdk_30_method_1_code (1 : Nat) (Option.none : Option Jvm.ClassFile.FieldType), Jvm.Cond.code ({ cls := "java/lang/Object", name := "<init>", desc := "()V" } : Jvm.MethodName) object_method_1_code (1 : Nat) (Option.none : Option Jvm.ClassFile.FieldType), Jvm.Cond.code ({ cls := "java/util/ArrayList", name := "<init>", desc := "()V" } : Jvm.MethodName) jdk_38_method_2_code (1 : Nat) (Option.none : Option Jvm.ClassFile.FieldType), Jvm.Cond.code ({ cls := "java/util/AbstractList", name := "<init>", desc := "()V" } : Jvm.MethodName) jdk_39_method_1_code (1 : Nat) (Option.none : Option Jvm.ClassFile.FieldType), Jvm.Cond.code ({ cls := "java/util/AbstractCollection", name := "<init>", desc := "()V" } : Jvm.MethodName) jdk_22_method_1_code (1 : Nat) (Option.none : Option Jvm.ClassFile.FieldType), Jvm.Cond.code ({ cls := "com/example/overbook_guard/overbookguard/gate/Released", name := "<init>", desc := "(JLjava/util/Optional;Lcom/example/overbook_guard/overbookguard/pool/Booked;Ljava/util/List;)V" } : Jvm.MethodName) prog_6_method_1_code (6 : Nat) (Option.none : Option Jvm.ClassFile.FieldType), Jvm.Cond.code ({ cls := "java/lang/Math", name := "max", desc := "(JJ)J" } : Jvm.MethodName) jdk_29_method_66_code (4 : Nat) (Option.some Jvm.ClassFile.FieldType.long), Jvm.Cond.code ({ cls := "com/example/overbook_guard/overbookguard/gate/Released", name := "admission", desc := "()Z" } : Jvm.MethodName) prog_6_method_2_code (1 : Nat) (Option.some Jvm.ClassFile.FieldType.boolean), Jvm.Cond.code ({ cls := "com/example/overbook_guard/overbookguard/pool/Booked", name := "cores", desc := "()J" } : Jvm.MethodName) prog_42_method_5_code (1 : Nat) (Option.some Jvm.ClassFile.FieldType.long), Jvm.Cond.code ({ cls := "com/example/overbook_guard/overbookguard/pool/Booked", name := "gpus", desc := "()J" } : Jvm.MethodName) prog_42_method_6_code (1 : Nat) (Option.some Jvm.ClassFile.FieldType.long)]
set_option maxRecDepth 65536 in
theorem codes_eq : words1.filter isCode = codes1 := rfl
theorem w_codes : ∀ c ∈ words1.filter isCode, c.before args0 about1 = true := by
  rw [codes_eq]
  intro c hc
  simp only [codes1, List.mem_cons, List.not_mem_nil, or_false] at hc
  rcases hc with rfl | rfl | rfl | rfl | rfl | rfl | rfl | rfl | rfl | rfl | rfl | rfl
  · exact w_c0
  · exact w_c1
  · exact w_c2
  · exact w_c3
  · exact w_c4
  · exact w_c5
  · exact w_c6
  · exact w_c7
  · exact w_c8
  · exact w_c9
  · exact w_c10
  · exact w_c11
set_option maxRecDepth 65536 in
theorem w_t1 : (words1.take 24).all (fun c => isCode c || c.before args0 about1) = true := by decide +kernel
set_option maxRecDepth 65536 in
theorem w_t2 : ((words1.drop 24).take 24).all (fun c => isCode c || c.before args0 about1) = true := by decide +kernel
set_option maxRecDepth 65536 in
theorem w_t3 : (((words1.drop 24).drop 24).take 24).all (fun c => isCode c || c.before args0 about1) = true := by decide +kernel
set_option maxRecDepth 65536 in
theorem w_t4 : (((words1.drop 24).drop 24).drop 24).all (fun c => isCode c || c.before args0 about1) = true := by decide +kernel
theorem w_tables : (allAtoms (Jvm.Cond.code x code maxLocals ret :: tables_1)).before args0 about1 = true := by
  rw [allAtoms_all]
  show words1.all (fun c => c.before args0 about1) = true
  refine all_split ?_ w_codes
  rw [← List.take_append_drop 24 words1, List.all_append, w_t1, ← List.take_append_drop 24 (words1.drop 24), List.all_append, w_t2, ← List.take_append_drop 24 ((words1.drop 24).drop 24), List.all_append, w_t3, w_t4]
  rfl
set_option maxRecDepth 65536 in
theorem w_rest : rest_1_c.before args0 about1 = true := by decide +kernel
set_option maxRecDepth 65536 in
theorem w_case : (Jvm.Cond.and given_1 narrow_1).before args0 about1 = true := by decide +kernel
theorem w_applies : (headSpec (Jvm.Cond.code x code maxLocals ret :: tables_1) room_1).applies x e0.platform about1 = true :=
  (Spec.applies_iff w_frames).mpr ⟨w_running, w_runnable, w_alone, w_named, w_hears, w_ripe, w_room, w_tables⟩
theorem atStart : AtStart classFile x code maxLocals ret World_1 tables_1 room_1 Calls_1 rest_1 Pre_1 launch0 p0 e0 about1 theMethod args0 below0 :=
  ⟨lists_1, trivial, launch0.admits_env _ _ _, launch0.least_env, fairChoices_fair.cas, fairChoices_fair.clock, w_frames, w_args, w_heap, w_applies, trivial, w_rest, w_case⟩
end start1
theorem witness_1 : WitnessClaimed_1 := ⟨start1.p0, start1.e0, start1.about1, start1.theMethod, start1.args0, start1.below0, start1.atStart⟩
end Jvm.Pilot.@@N@@
