import JvmDerived
import JvmDerived.Pilot.@@N@@Statement
import JvmDerived.Pilot.@@N@@Code
set_option linter.unusedVariables false
set_option linter.unusedSimpArgs false
namespace Jvm.Pilot.@@N@@
open Jvm Jvm.ClassFile Sem Op Lib Jvm.Free Jvm.Stand Jvm.LawKit Jvm.RoadKit Bundle Jvm.Pilot.@@N@@.Jvm.D
section Layer
variable {p : Program} {l : Launch} {e : Env} {R : Room} {s : State} {m : MethodId} {args : Array Value} {below : List Frame} {meth : Method} {c : Code} {T : State} {locs : List Loc} {cells slots : Nat} {Q : Option Value → Heap → List Loc → Prop} {K N : Nat} {pc n : Nat} {Ls : Array Slot} {rest st : List Value} {Z : State} {a0 : Array Value} {h : Heap}
/-- from st on the invocation ends as Q says -/
def Goes (p : Program) (e : Env) (below : List Frame) (s : State) (Q : Option Value → Heap → List Loc → Prop) (K N : Nat) (st : State) : Prop :=
  ∃ s₂ o, Steps p.tables e below st s₂ ∧ s₂.status = .running ∧ Ended s₂ below o ∧ ∃ v L, o = .returned v ∧ Q v s₂.heap L ∧ FrameEnd s o s₂ L K N
theorem Goes.via {st st' : State} (g : Goes p e below s Q K N st') (h : ∀ t, Steps p.tables e below st' t → Steps p.tables e below st t) : Goes p e below s Q K N st := by
  obtain ⟨s₂, o, h1, r⟩ := g
  exact ⟨s₂, o, h _ h1, r⟩
/-- a body's contract -/
def Does (l : Launch) (Z : State) (y : MethodName) (bytes : ByteArray) (maxL : Nat) (ret : Option FieldType) (ws : List Jvm.Cond) (rm : Room) (as : Array Value) (h : Heap) (Q : Option Value → Heap → List Loc → Prop) : Prop :=
  MetFree l y (head1 (Jvm.Cond.code y bytes maxL ret :: ws) rm) (fun a U => a = as ∧ Z.Warmed39 U.vm ∧ U.heap = h) (fun _ _ _ _ _ => True) (fun _ U o U' => ∃ v L, o = .returned v ∧ Q v U'.heap L ∧ FrameEnd U o U' L rm.cells rm.slots)
theorem Does.of {y : MethodName} {bytes : ByteArray} {maxL : Nat} {ret : Option FieldType} {ws : List Jvm.Cond} {rm : Room} {as : Array Value} (hpl : plainFor y = true)
    (body : ∀ (p : Program) (e : Env) (s : State) (m : MethodId) (below : List Frame) (meth : Method) (c : Code) (T : State), p.tables.exec = Jvm.exec → c.code = bytes → c.maxLocals = maxL → s.vm.findClass y.cls = some m.cls → meth.name = y.name → meth.sig.returnType = ret → meth.locks = false → Z.Warmed39 s.vm → Stand p l e rm s m as below meth c T [] 0 0 → T.heap = h → Goes p e below s Q rm.cells rm.slots (T.setTop (entryFrame m as maxL))) : Does l Z y bytes maxL ret ws rm as h Q := by
  refine MetFree.of_bodySF hpl hisR ?_
  intro p e s m args below meth c s₁ Bd hml0 hP hK
  obtain ⟨rfl, hZ, hh⟩ := hP
  have X0 : Stand p l e rm s m args below meth c s₁ [] 0 0 := Stand.of_body Bd
  exact body p e s m below meth c s₁ Bd.exec Bd.bytes hml0 (findClass_of_methodNamed Bd.named) (name_of_methodNamed Bd.named Bd.method).1 Bd.returns Bd.notSynchronized hZ X0 (by rw [← hh, Bd.state]; rfl)
theorem o_entry {as : Array Value} {maxL : Nat} (q : entryFrame m as maxL = mkF m 0 Ls []) (g : Goes p e below s Q K N (T.setTop (mkF m 0 Ls []))) : Goes p e below s Q K N (T.setTop (entryFrame m as maxL)) := q ▸ g
theorem o_iload (X : Stand p l e R s m args below meth c T locs cells slots) (hx : p.tables.exec = Jvm.exec) {j : Nat} {v : Int32} (hd : decode c.code pc = .ok (.iload j, 2)) (hl : Ls[j]? = some (.val (.int v))) (hn : pc + 2 = n) (g : Goes p e below s Q K N (T.setTop (mkF m n Ls (.int v :: st)))) : Goes p e below s Q K N (T.setTop (mkF m pc Ls st)) := by
  subst hn
  exact g.via fun t k => XS.iload X.here hx rfl hd hl k
theorem o_iloadN (X : Stand p l e R s m args below meth c T locs cells slots) (hx : p.tables.exec = Jvm.exec) {j : Fin 4} {v : Int32} (hd : decode c.code pc = .ok (.iload_n j, 1)) (hl : Ls[j.val]? = some (.val (.int v))) (hn : pc + 1 = n) (g : Goes p e below s Q K N (T.setTop (mkF m n Ls (.int v :: st)))) : Goes p e below s Q K N (T.setTop (mkF m pc Ls st)) := by
  subst hn
  exact g.via fun t k => XS.iloadN X.here hx rfl hd hl k
theorem o_lload (X : Stand p l e R s m args below meth c T locs cells slots) (hx : p.tables.exec = Jvm.exec) {j : Nat} {v : Int64} (hd : decode c.code pc = .ok (.lload j, 2)) (hl : Ls[j]? = some (.val (.long v))) (hn : pc + 2 = n) (g : Goes p e below s Q K N (T.setTop (mkF m n Ls (.long v :: st)))) : Goes p e below s Q K N (T.setTop (mkF m pc Ls st)) := by
  subst hn
  exact g.via fun t k => XS.lload X.here hx rfl hd hl k
theorem o_lloadN (X : Stand p l e R s m args below meth c T locs cells slots) (hx : p.tables.exec = Jvm.exec) {j : Fin 4} {v : Int64} (hd : decode c.code pc = .ok (.lload_n j, 1)) (hl : Ls[j.val]? = some (.val (.long v))) (hn : pc + 1 = n) (g : Goes p e below s Q K N (T.setTop (mkF m n Ls (.long v :: st)))) : Goes p e below s Q K N (T.setTop (mkF m pc Ls st)) := by
  subst hn
  exact g.via fun t k => XS.lloadN X.here hx rfl hd hl k
theorem o_aload (X : Stand p l e R s m args below meth c T locs cells slots) (hx : p.tables.exec = Jvm.exec) {j : Nat} {v : Value} (hd : decode c.code pc = .ok (.aload j, 2)) (hl : Ls[j]? = some (.val v)) (hv : v.isRef = true) (hn : pc + 2 = n) (g : Goes p e below s Q K N (T.setTop (mkF m n Ls (v :: st)))) : Goes p e below s Q K N (T.setTop (mkF m pc Ls st)) := by
  subst hn
  exact g.via fun t k => XS.aload X.here hx rfl hd hl hv k
theorem o_aloadN (X : Stand p l e R s m args below meth c T locs cells slots) (hx : p.tables.exec = Jvm.exec) {j : Fin 4} {v : Value} (hd : decode c.code pc = .ok (.aload_n j, 1)) (hl : Ls[j.val]? = some (.val v)) (hv : v.isRef = true) (hn : pc + 1 = n) (g : Goes p e below s Q K N (T.setTop (mkF m n Ls (v :: st)))) : Goes p e below s Q K N (T.setTop (mkF m pc Ls st)) := by
  subst hn
  exact g.via fun t k => XS.aloadN X.here hx rfl hd hl hv k
theorem o_istore (X : Stand p l e R s m args below meth c T locs cells slots) (hx : p.tables.exec = Jvm.exec) {j : Nat} {v : Int32} {Ls' : Array Slot} (hd : decode c.code pc = .ok (.istore j, 2)) (hl : storeLocals Ls j (.int v) = some Ls') (hn : pc + 2 = n) (g : Goes p e below s Q K N (T.setTop (mkF m n Ls' rest))) : Goes p e below s Q K N (T.setTop (mkF m pc Ls (.int v :: rest))) := by
  subst hn
  exact g.via fun t k => XS.istore X.here hx rfl hd rfl hl k
theorem o_istoreN (X : Stand p l e R s m args below meth c T locs cells slots) (hx : p.tables.exec = Jvm.exec) {j : Fin 4} {v : Int32} {Ls' : Array Slot} (hd : decode c.code pc = .ok (.istore_n j, 1)) (hl : storeLocals Ls j.val (.int v) = some Ls') (hn : pc + 1 = n) (g : Goes p e below s Q K N (T.setTop (mkF m n Ls' rest))) : Goes p e below s Q K N (T.setTop (mkF m pc Ls (.int v :: rest))) := by
  subst hn
  exact g.via fun t k => XS.istoreN X.here hx rfl hd rfl hl k
theorem o_lstore (X : Stand p l e R s m args below meth c T locs cells slots) (hx : p.tables.exec = Jvm.exec) {j : Nat} {v : Int64} {Ls' : Array Slot} (hd : decode c.code pc = .ok (.lstore j, 2)) (hl : storeLocals Ls j (.long v) = some Ls') (hn : pc + 2 = n) (g : Goes p e below s Q K N (T.setTop (mkF m n Ls' rest))) : Goes p e below s Q K N (T.setTop (mkF m pc Ls (.long v :: rest))) := by
  subst hn
  exact g.via fun t k => XS.lstore X.here hx rfl hd rfl hl k
theorem o_lstoreN (X : Stand p l e R s m args below meth c T locs cells slots) (hx : p.tables.exec = Jvm.exec) {j : Fin 4} {v : Int64} {Ls' : Array Slot} (hd : decode c.code pc = .ok (.lstore_n j, 1)) (hl : storeLocals Ls j.val (.long v) = some Ls') (hn : pc + 1 = n) (g : Goes p e below s Q K N (T.setTop (mkF m n Ls' rest))) : Goes p e below s Q K N (T.setTop (mkF m pc Ls (.long v :: rest))) := by
  subst hn
  exact g.via fun t k => XS.lstoreN X.here hx rfl hd rfl hl k
theorem o_astore (X : Stand p l e R s m args below meth c T locs cells slots) (hx : p.tables.exec = Jvm.exec) {j : Nat} {v : Value} {Ls' : Array Slot} (hd : decode c.code pc = .ok (.astore j, 2)) (hv : v.isRef = true) (hl : storeLocals Ls j v = some Ls') (hn : pc + 2 = n) (g : Goes p e below s Q K N (T.setTop (mkF m n Ls' rest))) : Goes p e below s Q K N (T.setTop (mkF m pc Ls (v :: rest))) := by
  subst hn
  exact g.via fun t k => XS.astore X.here hx rfl hd rfl hv hl k
theorem o_astoreN (X : Stand p l e R s m args below meth c T locs cells slots) (hx : p.tables.exec = Jvm.exec) {j : Fin 4} {v : Value} {Ls' : Array Slot} (hd : decode c.code pc = .ok (.astore_n j, 1)) (hv : v.isRef = true) (hl : storeLocals Ls j.val v = some Ls') (hn : pc + 1 = n) (g : Goes p e below s Q K N (T.setTop (mkF m n Ls' rest))) : Goes p e below s Q K N (T.setTop (mkF m pc Ls (v :: rest))) := by
  subst hn
  exact g.via fun t k => XS.astoreN X.here hx rfl hd rfl hv hl k
theorem o_iinc (X : Stand p l e R s m args below meth c T locs cells slots) (hx : p.tables.exec = Jvm.exec) {j : Nat} {cst : Int} {x w : Int32} {Ls' : Array Slot} (hd : decode c.code pc = .ok (.iinc j cst, 3)) (hl : Ls[j]? = some (.val (.int x))) (hw : x + Int32.ofInt cst = w) (hl' : storeLocals Ls j (.int w) = some Ls') (hn : pc + 3 = n) (g : Goes p e below s Q K N (T.setTop (mkF m n Ls' st))) : Goes p e below s Q K N (T.setTop (mkF m pc Ls st)) := by
  subst hn
  exact g.via fun t k => XS.iinc X.here hx rfl hd hl (by rw [hw]; exact hl') k
theorem o_iconst (X : Stand p l e R s m args below meth c T locs cells slots) (hx : p.tables.exec = Jvm.exec) {i : Int} {v : Int32} (hd : decode c.code pc = .ok (.iconst i, 1)) (hv : Int32.ofInt i = v) (hn : pc + 1 = n) (g : Goes p e below s Q K N (T.setTop (mkF m n Ls (.int v :: st)))) : Goes p e below s Q K N (T.setTop (mkF m pc Ls st)) := by
  subst hn hv
  exact g.via fun t k => XS.iconst X.here hx rfl hd k
theorem o_bipush (X : Stand p l e R s m args below meth c T locs cells slots) (hx : p.tables.exec = Jvm.exec) {i : Int} {v : Int32} (hd : decode c.code pc = .ok (.bipush i, 2)) (hv : (Int8.ofInt i).toInt32 = v) (hn : pc + 2 = n) (g : Goes p e below s Q K N (T.setTop (mkF m n Ls (.int v :: st)))) : Goes p e below s Q K N (T.setTop (mkF m pc Ls st)) := by
  subst hn hv
  exact g.via fun t k => XS.bipush X.here hx rfl hd k
theorem o_sipush (X : Stand p l e R s m args below meth c T locs cells slots) (hx : p.tables.exec = Jvm.exec) {i : Int} {v : Int32} (hd : decode c.code pc = .ok (.sipush i, 3)) (hv : (Int16.ofInt i).toInt32 = v) (hn : pc + 3 = n) (g : Goes p e below s Q K N (T.setTop (mkF m n Ls (.int v :: st)))) : Goes p e below s Q K N (T.setTop (mkF m pc Ls st)) := by
  subst hn hv
  exact g.via fun t k => XS.sipush X.here hx rfl hd k
theorem o_lconst (X : Stand p l e R s m args below meth c T locs cells slots) (hx : p.tables.exec = Jvm.exec) {j : Fin 2} {v : Int64} (hd : decode c.code pc = .ok (.lconst j, 1)) (hv : Int64.ofNat j = v) (hn : pc + 1 = n) (g : Goes p e below s Q K N (T.setTop (mkF m n Ls (.long v :: st)))) : Goes p e below s Q K N (T.setTop (mkF m pc Ls st)) := by
  subst hn hv
  exact g.via fun t k => XS.lconst X.here hx rfl hd k
theorem o_aconst_null (X : Stand p l e R s m args below meth c T locs cells slots) (hx : p.tables.exec = Jvm.exec)  (hd : decode c.code pc = .ok (.aconst_null, 1)) (hn : pc + 1 = n) (g : Goes p e below s Q K N (T.setTop (mkF m n Ls (.null :: st)))) : Goes p e below s Q K N (T.setTop (mkF m pc Ls st)) := by
  subst hn
  exact g.via fun t k => XS.aconstNull X.here hx rfl hd k
theorem o_ldc (X : Stand p l e R s m args below meth c T locs cells slots) (hx : p.tables.exec = Jvm.exec)  (hZ : Z.Warmed39 s.vm) {own : String} {index : Nat} {v : Int32} (hown : s.vm.findClass own = some m.cls) (w : (Jvm.Cond.constant own index v).before a0 Z = true) (hd : decode c.code pc = .ok (.ldc index, 2)) (hn : pc + 2 = n) (g : Goes p e below s Q K N (T.setTop (mkF m n Ls (.int v :: st)))) : Goes p e below s Q K N (T.setTop (mkF m pc Ls st)) := by
  subst hn
  exact g.via fun t k => X.ldcInt hx hown (mvT hZ w) (g := mkF m pc Ls st) rfl hd t k
theorem o_ldc_w (X : Stand p l e R s m args below meth c T locs cells slots) (hx : p.tables.exec = Jvm.exec)  (hZ : Z.Warmed39 s.vm) {own : String} {index : Nat} {v : Int32} (hown : s.vm.findClass own = some m.cls) (w : (Jvm.Cond.constant own index v).before a0 Z = true) (hd : decode c.code pc = .ok (.ldc_w index, 3)) (hn : pc + 3 = n) (g : Goes p e below s Q K N (T.setTop (mkF m n Ls (.int v :: st)))) : Goes p e below s Q K N (T.setTop (mkF m pc Ls st)) := by
  subst hn
  exact g.via fun t k => X.ldcWInt hx hown (mvT hZ w) (g := mkF m pc Ls st) rfl hd t k
theorem o_ldc2_w (X : Stand p l e R s m args below meth c T locs cells slots) (hx : p.tables.exec = Jvm.exec)  (hZ : Z.Warmed39 s.vm) {own : String} {index : Nat} {v : Int64} (hown : s.vm.findClass own = some m.cls) (w : (Jvm.Cond.constantLong own index v).before a0 Z = true) (hd : decode c.code pc = .ok (.ldc2_w index, 3)) (hn : pc + 3 = n) (g : Goes p e below s Q K N (T.setTop (mkF m n Ls (.long v :: st)))) : Goes p e below s Q K N (T.setTop (mkF m pc Ls st)) := by
  subst hn
  exact g.via fun t k => X.ldc2Long hx hown (mvT hZ w) (g := mkF m pc Ls st) rfl hd t k
theorem o_iadd (X : Stand p l e R s m args below meth c T locs cells slots) (hx : p.tables.exec = Jvm.exec) {x y v : Int32} (hd : decode c.code pc = .ok (.iadd, 1)) (hv : x + y = v) (hn : pc + 1 = n) (g : Goes p e below s Q K N (T.setTop (mkF m n Ls (.int v :: rest)))) : Goes p e below s Q K N (T.setTop (mkF m pc Ls (.int y :: .int x :: rest))) := by
  subst hn hv
  exact g.via fun t k => XS.iadd X.here hx rfl hd rfl k
theorem o_isub (X : Stand p l e R s m args below meth c T locs cells slots) (hx : p.tables.exec = Jvm.exec) {x y v : Int32} (hd : decode c.code pc = .ok (.isub, 1)) (hv : x - y = v) (hn : pc + 1 = n) (g : Goes p e below s Q K N (T.setTop (mkF m n Ls (.int v :: rest)))) : Goes p e below s Q K N (T.setTop (mkF m pc Ls (.int y :: .int x :: rest))) := by
  subst hn hv
  exact g.via fun t k => XS.isub X.here hx rfl hd rfl k
theorem o_imul (X : Stand p l e R s m args below meth c T locs cells slots) (hx : p.tables.exec = Jvm.exec) {x y v : Int32} (hd : decode c.code pc = .ok (.imul, 1)) (hv : x * y = v) (hn : pc + 1 = n) (g : Goes p e below s Q K N (T.setTop (mkF m n Ls (.int v :: rest)))) : Goes p e below s Q K N (T.setTop (mkF m pc Ls (.int y :: .int x :: rest))) := by
  subst hn hv
  exact g.via fun t k => XS.imul X.here hx rfl hd rfl k
theorem o_iand (X : Stand p l e R s m args below meth c T locs cells slots) (hx : p.tables.exec = Jvm.exec) {x y v : Int32} (hd : decode c.code pc = .ok (.iand, 1)) (hv : x &&& y = v) (hn : pc + 1 = n) (g : Goes p e below s Q K N (T.setTop (mkF m n Ls (.int v :: rest)))) : Goes p e below s Q K N (T.setTop (mkF m pc Ls (.int y :: .int x :: rest))) := by
  subst hn hv
  exact g.via fun t k => XS.iand X.here hx rfl hd rfl k
theorem o_ior (X : Stand p l e R s m args below meth c T locs cells slots) (hx : p.tables.exec = Jvm.exec) {x y v : Int32} (hd : decode c.code pc = .ok (.ior, 1)) (hv : x ||| y = v) (hn : pc + 1 = n) (g : Goes p e below s Q K N (T.setTop (mkF m n Ls (.int v :: rest)))) : Goes p e below s Q K N (T.setTop (mkF m pc Ls (.int y :: .int x :: rest))) := by
  subst hn hv
  exact g.via fun t k => XS.ior X.here hx rfl hd rfl k
theorem o_ixor (X : Stand p l e R s m args below meth c T locs cells slots) (hx : p.tables.exec = Jvm.exec) {x y v : Int32} (hd : decode c.code pc = .ok (.ixor, 1)) (hv : x ^^^ y = v) (hn : pc + 1 = n) (g : Goes p e below s Q K N (T.setTop (mkF m n Ls (.int v :: rest)))) : Goes p e below s Q K N (T.setTop (mkF m pc Ls (.int y :: .int x :: rest))) := by
  subst hn hv
  exact g.via fun t k => XS.ixor X.here hx rfl hd rfl k
theorem o_ladd (X : Stand p l e R s m args below meth c T locs cells slots) (hx : p.tables.exec = Jvm.exec) {x y v : Int64} (hd : decode c.code pc = .ok (.ladd, 1)) (hv : x + y = v) (hn : pc + 1 = n) (g : Goes p e below s Q K N (T.setTop (mkF m n Ls (.long v :: rest)))) : Goes p e below s Q K N (T.setTop (mkF m pc Ls (.long y :: .long x :: rest))) := by
  subst hn hv
  exact g.via fun t k => XS.ladd X.here hx rfl hd rfl k
theorem o_lsub (X : Stand p l e R s m args below meth c T locs cells slots) (hx : p.tables.exec = Jvm.exec) {x y v : Int64} (hd : decode c.code pc = .ok (.lsub, 1)) (hv : x - y = v) (hn : pc + 1 = n) (g : Goes p e below s Q K N (T.setTop (mkF m n Ls (.long v :: rest)))) : Goes p e below s Q K N (T.setTop (mkF m pc Ls (.long y :: .long x :: rest))) := by
  subst hn hv
  exact g.via fun t k => XS.lsub X.here hx rfl hd rfl k
theorem o_lmul (X : Stand p l e R s m args below meth c T locs cells slots) (hx : p.tables.exec = Jvm.exec) {x y v : Int64} (hd : decode c.code pc = .ok (.lmul, 1)) (hv : x * y = v) (hn : pc + 1 = n) (g : Goes p e below s Q K N (T.setTop (mkF m n Ls (.long v :: rest)))) : Goes p e below s Q K N (T.setTop (mkF m pc Ls (.long y :: .long x :: rest))) := by
  subst hn hv
  exact g.via fun t k => XS.lmul X.here hx rfl hd rfl k
theorem o_land (X : Stand p l e R s m args below meth c T locs cells slots) (hx : p.tables.exec = Jvm.exec) {x y v : Int64} (hd : decode c.code pc = .ok (.land, 1)) (hv : x &&& y = v) (hn : pc + 1 = n) (g : Goes p e below s Q K N (T.setTop (mkF m n Ls (.long v :: rest)))) : Goes p e below s Q K N (T.setTop (mkF m pc Ls (.long y :: .long x :: rest))) := by
  subst hn hv
  exact g.via fun t k => XS.land X.here hx rfl hd rfl k
theorem o_lor (X : Stand p l e R s m args below meth c T locs cells slots) (hx : p.tables.exec = Jvm.exec) {x y v : Int64} (hd : decode c.code pc = .ok (.lor, 1)) (hv : x ||| y = v) (hn : pc + 1 = n) (g : Goes p e below s Q K N (T.setTop (mkF m n Ls (.long v :: rest)))) : Goes p e below s Q K N (T.setTop (mkF m pc Ls (.long y :: .long x :: rest))) := by
  subst hn hv
  exact g.via fun t k => XS.lor X.here hx rfl hd rfl k
theorem o_lxor (X : Stand p l e R s m args below meth c T locs cells slots) (hx : p.tables.exec = Jvm.exec) {x y v : Int64} (hd : decode c.code pc = .ok (.lxor, 1)) (hv : x ^^^ y = v) (hn : pc + 1 = n) (g : Goes p e below s Q K N (T.setTop (mkF m n Ls (.long v :: rest)))) : Goes p e below s Q K N (T.setTop (mkF m pc Ls (.long y :: .long x :: rest))) := by
  subst hn hv
  exact g.via fun t k => XS.lxor X.here hx rfl hd rfl k
theorem o_idiv (X : Stand p l e R s m args below meth c T locs cells slots) (hx : p.tables.exec = Jvm.exec) {x y v : Int32} (hd : decode c.code pc = .ok (.idiv, 1)) (hy : y ≠ 0) (hv : x / y = v) (hn : pc + 1 = n) (g : Goes p e below s Q K N (T.setTop (mkF m n Ls (.int v :: rest)))) : Goes p e below s Q K N (T.setTop (mkF m pc Ls (.int y :: .int x :: rest))) := by
  subst hn hv
  exact g.via fun t k => XS.idiv X.here hx rfl hd rfl hy k
theorem o_irem (X : Stand p l e R s m args below meth c T locs cells slots) (hx : p.tables.exec = Jvm.exec) {x y v : Int32} (hd : decode c.code pc = .ok (.irem, 1)) (hy : y ≠ 0) (hv : x % y = v) (hn : pc + 1 = n) (g : Goes p e below s Q K N (T.setTop (mkF m n Ls (.int v :: rest)))) : Goes p e below s Q K N (T.setTop (mkF m pc Ls (.int y :: .int x :: rest))) := by
  subst hn hv
  exact g.via fun t k => iremM X hx (g := mkF m pc Ls _) rfl hd rfl hy k
theorem o_ldiv (X : Stand p l e R s m args below meth c T locs cells slots) (hx : p.tables.exec = Jvm.exec) {x y v : Int64} (hd : decode c.code pc = .ok (.ldiv, 1)) (hy : y ≠ 0) (hv : x / y = v) (hn : pc + 1 = n) (g : Goes p e below s Q K N (T.setTop (mkF m n Ls (.long v :: rest)))) : Goes p e below s Q K N (T.setTop (mkF m pc Ls (.long y :: .long x :: rest))) := by
  subst hn hv
  exact g.via fun t k => XS.ldiv X.here hx rfl hd rfl hy k
theorem o_lrem (X : Stand p l e R s m args below meth c T locs cells slots) (hx : p.tables.exec = Jvm.exec) {x y v : Int64} (hd : decode c.code pc = .ok (.lrem, 1)) (hy : y ≠ 0) (hv : x % y = v) (hn : pc + 1 = n) (g : Goes p e below s Q K N (T.setTop (mkF m n Ls (.long v :: rest)))) : Goes p e below s Q K N (T.setTop (mkF m pc Ls (.long y :: .long x :: rest))) := by
  subst hn hv
  exact g.via fun t k => XS.lrem X.here hx rfl hd rfl hy (by rw [lrem_mod]; exact k)
theorem o_ishl (X : Stand p l e R s m args below meth c T locs cells slots) (hx : p.tables.exec = Jvm.exec) {x y v : Int32} (hd : decode c.code pc = .ok (.ishl, 1)) (hv : x <<< (y &&& 31) = v) (hn : pc + 1 = n) (g : Goes p e below s Q K N (T.setTop (mkF m n Ls (.int v :: rest)))) : Goes p e below s Q K N (T.setTop (mkF m pc Ls (.int y :: .int x :: rest))) := by
  subst hn hv
  exact g.via fun t k => XS.ishl X.here hx rfl hd rfl k
theorem o_ishr (X : Stand p l e R s m args below meth c T locs cells slots) (hx : p.tables.exec = Jvm.exec) {x y v : Int32} (hd : decode c.code pc = .ok (.ishr, 1)) (hv : x >>> (y &&& 31) = v) (hn : pc + 1 = n) (g : Goes p e below s Q K N (T.setTop (mkF m n Ls (.int v :: rest)))) : Goes p e below s Q K N (T.setTop (mkF m pc Ls (.int y :: .int x :: rest))) := by
  subst hn hv
  exact g.via fun t k => XS.ishr X.here hx rfl hd rfl k
theorem o_iushr (X : Stand p l e R s m args below meth c T locs cells slots) (hx : p.tables.exec = Jvm.exec) {x y v : Int32} (hd : decode c.code pc = .ok (.iushr, 1)) (hv : (x.toUInt32 >>> (y &&& 31).toUInt32).toInt32 = v) (hn : pc + 1 = n) (g : Goes p e below s Q K N (T.setTop (mkF m n Ls (.int v :: rest)))) : Goes p e below s Q K N (T.setTop (mkF m pc Ls (.int y :: .int x :: rest))) := by
  subst hn hv
  exact g.via fun t k => XS.iushr X.here hx rfl hd rfl k
theorem o_lshl (X : Stand p l e R s m args below meth c T locs cells slots) (hx : p.tables.exec = Jvm.exec) {x v : Int64} {y : Int32} (hd : decode c.code pc = .ok (.lshl, 1)) (hv : x <<< (y &&& 0x3f).toInt64 = v) (hn : pc + 1 = n) (g : Goes p e below s Q K N (T.setTop (mkF m n Ls (.long v :: rest)))) : Goes p e below s Q K N (T.setTop (mkF m pc Ls (.int y :: .long x :: rest))) := by
  subst hn hv
  exact g.via fun t k => XS.lshl X.here hx rfl hd rfl k
theorem o_lshr (X : Stand p l e R s m args below meth c T locs cells slots) (hx : p.tables.exec = Jvm.exec) {x v : Int64} {y : Int32} (hd : decode c.code pc = .ok (.lshr, 1)) (hv : x >>> (y &&& 0x3f).toInt64 = v) (hn : pc + 1 = n) (g : Goes p e below s Q K N (T.setTop (mkF m n Ls (.long v :: rest)))) : Goes p e below s Q K N (T.setTop (mkF m pc Ls (.int y :: .long x :: rest))) := by
  subst hn hv
  exact g.via fun t k => XS.lshr X.here hx rfl hd rfl k
theorem o_lushr (X : Stand p l e R s m args below meth c T locs cells slots) (hx : p.tables.exec = Jvm.exec) {x v : Int64} {y : Int32} (hd : decode c.code pc = .ok (.lushr, 1)) (hv : (x.toUInt64 >>> (y &&& 0x3f).toInt64.toUInt64).toInt64 = v) (hn : pc + 1 = n) (g : Goes p e below s Q K N (T.setTop (mkF m n Ls (.long v :: rest)))) : Goes p e below s Q K N (T.setTop (mkF m pc Ls (.int y :: .long x :: rest))) := by
  subst hn hv
  exact g.via fun t k => XS.lushr X.here hx rfl hd rfl k
theorem o_i2l (X : Stand p l e R s m args below meth c T locs cells slots) (hx : p.tables.exec = Jvm.exec) {x : Int32} {v : Int64} (hd : decode c.code pc = .ok (.i2l, 1)) (hv : x.toInt64 = v) (hn : pc + 1 = n) (g : Goes p e below s Q K N (T.setTop (mkF m n Ls (.long v :: rest)))) : Goes p e below s Q K N (T.setTop (mkF m pc Ls (.int x :: rest))) := by
  subst hn hv
  exact g.via fun t k => XS.i2l X.here hx rfl hd rfl k
theorem o_l2i (X : Stand p l e R s m args below meth c T locs cells slots) (hx : p.tables.exec = Jvm.exec) {x : Int64} {v : Int32} (hd : decode c.code pc = .ok (.l2i, 1)) (hv : x.toInt32 = v) (hn : pc + 1 = n) (g : Goes p e below s Q K N (T.setTop (mkF m n Ls (.int v :: rest)))) : Goes p e below s Q K N (T.setTop (mkF m pc Ls (.long x :: rest))) := by
  subst hn hv
  exact g.via fun t k => XS.l2i X.here hx rfl hd rfl k
theorem o_i2b (X : Stand p l e R s m args below meth c T locs cells slots) (hx : p.tables.exec = Jvm.exec) {x : Int32} {v : Int32} (hd : decode c.code pc = .ok (.i2b, 1)) (hv : x.toInt8.toInt32 = v) (hn : pc + 1 = n) (g : Goes p e below s Q K N (T.setTop (mkF m n Ls (.int v :: rest)))) : Goes p e below s Q K N (T.setTop (mkF m pc Ls (.int x :: rest))) := by
  subst hn hv
  exact g.via fun t k => XS.i2b X.here hx rfl hd rfl k
theorem o_i2c (X : Stand p l e R s m args below meth c T locs cells slots) (hx : p.tables.exec = Jvm.exec) {x : Int32} {v : Int32} (hd : decode c.code pc = .ok (.i2c, 1)) (hv : x.toUInt32.toUInt16.toUInt32.toInt32 = v) (hn : pc + 1 = n) (g : Goes p e below s Q K N (T.setTop (mkF m n Ls (.int v :: rest)))) : Goes p e below s Q K N (T.setTop (mkF m pc Ls (.int x :: rest))) := by
  subst hn hv
  exact g.via fun t k => XS.i2c X.here hx rfl hd rfl k
theorem o_i2s (X : Stand p l e R s m args below meth c T locs cells slots) (hx : p.tables.exec = Jvm.exec) {x : Int32} {v : Int32} (hd : decode c.code pc = .ok (.i2s, 1)) (hv : x.toInt16.toInt32 = v) (hn : pc + 1 = n) (g : Goes p e below s Q K N (T.setTop (mkF m n Ls (.int v :: rest)))) : Goes p e below s Q K N (T.setTop (mkF m pc Ls (.int x :: rest))) := by
  subst hn hv
  exact g.via fun t k => XS.i2s X.here hx rfl hd rfl k
theorem o_ineg (X : Stand p l e R s m args below meth c T locs cells slots) (hx : p.tables.exec = Jvm.exec) {x : Int32} {v : Int32} (hd : decode c.code pc = .ok (.ineg, 1)) (hv : -x = v) (hn : pc + 1 = n) (g : Goes p e below s Q K N (T.setTop (mkF m n Ls (.int v :: rest)))) : Goes p e below s Q K N (T.setTop (mkF m pc Ls (.int x :: rest))) := by
  subst hn hv
  exact g.via fun t k => XS.ineg X.here hx rfl hd rfl k
theorem o_lneg (X : Stand p l e R s m args below meth c T locs cells slots) (hx : p.tables.exec = Jvm.exec) {x : Int64} {v : Int64} (hd : decode c.code pc = .ok (.lneg, 1)) (hv : -x = v) (hn : pc + 1 = n) (g : Goes p e below s Q K N (T.setTop (mkF m n Ls (.long v :: rest)))) : Goes p e below s Q K N (T.setTop (mkF m pc Ls (.long x :: rest))) := by
  subst hn hv
  exact g.via fun t k => XS.lneg X.here hx rfl hd rfl k
theorem o_lcmp (X : Stand p l e R s m args below meth c T locs cells slots) (hx : p.tables.exec = Jvm.exec) {x y : Int64} (hd : decode c.code pc = .ok (.lcmp, 1)) (hn : pc + 1 = n) (g : Goes p e below s Q K N (T.setTop (mkF m n Ls (.int (XT.cmpL x y) :: rest)))) : Goes p e below s Q K N (T.setTop (mkF m pc Ls (.long y :: .long x :: rest))) := by
  subst hn
  exact g.via fun t k => XT.lcmp X.here hx rfl hd rfl k
theorem o_dup (X : Stand p l e R s m args below meth c T locs cells slots) (hx : p.tables.exec = Jvm.exec) {v : Value} (hd : decode c.code pc = .ok (.dup, 1)) (hv : v.category = 1) (hn : pc + 1 = n) (g : Goes p e below s Q K N (T.setTop (mkF m n Ls (v :: v :: rest)))) : Goes p e below s Q K N (T.setTop (mkF m pc Ls (v :: rest))) := by
  subst hn
  exact g.via fun t k => XS.dup X.here hx rfl hd rfl hv k
theorem o_dup_x1 (X : Stand p l e R s m args below meth c T locs cells slots) (hx : p.tables.exec = Jvm.exec) {v w : Value} (hd : decode c.code pc = .ok (.dup_x1, 1)) (hv : v.category = 1) (hw : w.category = 1) (hn : pc + 1 = n) (g : Goes p e below s Q K N (T.setTop (mkF m n Ls (v :: w :: v :: rest)))) : Goes p e below s Q K N (T.setTop (mkF m pc Ls (v :: w :: rest))) := by
  subst hn
  exact g.via fun t k => XS.dupX1 X.here hx rfl hd rfl hv hw k
theorem o_dup2 (X : Stand p l e R s m args below meth c T locs cells slots) (hx : p.tables.exec = Jvm.exec) {v w : Value} (hd : decode c.code pc = .ok (.dup2, 1)) (hv : v.category = 1) (hw : w.category = 1) (hn : pc + 1 = n) (g : Goes p e below s Q K N (T.setTop (mkF m n Ls (v :: w :: v :: w :: rest)))) : Goes p e below s Q K N (T.setTop (mkF m pc Ls (v :: w :: rest))) := by
  subst hn
  exact g.via fun t k => XT.dup2 X.here hx rfl hd rfl hv hw k
theorem o_pop (X : Stand p l e R s m args below meth c T locs cells slots) (hx : p.tables.exec = Jvm.exec) {v : Value} (hd : decode c.code pc = .ok (.pop, 1)) (hv : v.category = 1) (hn : pc + 1 = n) (g : Goes p e below s Q K N (T.setTop (mkF m n Ls rest))) : Goes p e below s Q K N (T.setTop (mkF m pc Ls (v :: rest))) := by
  subst hn
  exact g.via fun t k => XS.pop X.here hx rfl hd rfl hv k
theorem o_goto (X : Stand p l e R s m args below meth c T locs cells slots) (hx : p.tables.exec = Jvm.exec) {o : Int} (hd : decode c.code pc = .ok (.goto o, 3)) (ho : 0 ≤ (pc : Int) + o) (hn : ((pc : Int) + o).toNat = n) (g : Goes p e below s Q K N (T.setTop (mkF m n Ls st))) : Goes p e below s Q K N (T.setTop (mkF m pc Ls st)) := by
  exact g.via fun t k => XS.goto X.here hx rfl rfl hd ho hn k
theorem o_ifY (X : Stand p l e R s m args below meth c T locs cells slots) (hx : p.tables.exec = Jvm.exec) {cd : ClassFile.Cond} {x : Int32} {o : Int} (hd : decode c.code pc = .ok (.ifCond cd o, 3)) (hc : ifCond.holds cd x = true) (ho : 0 ≤ (pc : Int) + o) (hn : ((pc : Int) + o).toNat = n) (g : Goes p e below s Q K N (T.setTop (mkF m n Ls rest))) : Goes p e below s Q K N (T.setTop (mkF m pc Ls (.int x :: rest))) := by
  exact g.via fun t k => XS.ifYes X.here hx rfl rfl hd rfl hc ho hn k
theorem o_ifN (X : Stand p l e R s m args below meth c T locs cells slots) (hx : p.tables.exec = Jvm.exec) {cd : ClassFile.Cond} {x : Int32} {o : Int} (hd : decode c.code pc = .ok (.ifCond cd o, 3)) (hc : ifCond.holds cd x = false) (hn : pc + 3 = n) (g : Goes p e below s Q K N (T.setTop (mkF m n Ls rest))) : Goes p e below s Q K N (T.setTop (mkF m pc Ls (.int x :: rest))) := by
  subst hn
  exact g.via fun t k => XS.ifNo X.here hx rfl hd rfl hc k
theorem o_icmpY (X : Stand p l e R s m args below meth c T locs cells slots) (hx : p.tables.exec = Jvm.exec) {cd : ClassFile.Cond} {x y : Int32} {o : Int} (hd : decode c.code pc = .ok (.if_icmp cd o, 3)) (hc : if_icmp.holds cd x y = true) (ho : 0 ≤ (pc : Int) + o) (hn : ((pc : Int) + o).toNat = n) (g : Goes p e below s Q K N (T.setTop (mkF m n Ls rest))) : Goes p e below s Q K N (T.setTop (mkF m pc Ls (.int y :: .int x :: rest))) := by
  exact g.via fun t k => XS.icmpYes X.here hx rfl rfl hd rfl hc ho hn k
theorem o_icmpN (X : Stand p l e R s m args below meth c T locs cells slots) (hx : p.tables.exec = Jvm.exec) {cd : ClassFile.Cond} {x y : Int32} {o : Int} (hd : decode c.code pc = .ok (.if_icmp cd o, 3)) (hc : if_icmp.holds cd x y = false) (hn : pc + 3 = n) (g : Goes p e below s Q K N (T.setTop (mkF m n Ls rest))) : Goes p e below s Q K N (T.setTop (mkF m pc Ls (.int y :: .int x :: rest))) := by
  subst hn
  exact g.via fun t k => XS.icmpNo X.here hx rfl hd rfl hc k
theorem o_ifnullY (X : Stand p l e R s m args below meth c T locs cells slots) (hx : p.tables.exec = Jvm.exec) {o : Int} (hd : decode c.code pc = .ok (.ifnull o, 3)) (ho : 0 ≤ (pc : Int) + o) (hn : ((pc : Int) + o).toNat = n) (g : Goes p e below s Q K N (T.setTop (mkF m n Ls rest))) : Goes p e below s Q K N (T.setTop (mkF m pc Ls (.null :: rest))) := by
  exact g.via fun t k => XS.ifnullYes X.here hx rfl rfl hd rfl ho hn k
theorem o_ifnullN (X : Stand p l e R s m args below meth c T locs cells slots) (hx : p.tables.exec = Jvm.exec) {o : Int} {a : Addr} (hd : decode c.code pc = .ok (.ifnull o, 3)) (hn : pc + 3 = n) (g : Goes p e below s Q K N (T.setTop (mkF m n Ls rest))) : Goes p e below s Q K N (T.setTop (mkF m pc Ls (.ref a :: rest))) := by
  subst hn
  exact g.via fun t k => XS.ifnullNo X.here hx rfl hd rfl k
theorem o_ifnonnullY (X : Stand p l e R s m args below meth c T locs cells slots) (hx : p.tables.exec = Jvm.exec) {o : Int} {a : Addr} (hd : decode c.code pc = .ok (.ifnonnull o, 3)) (ho : 0 ≤ (pc : Int) + o) (hn : ((pc : Int) + o).toNat = n) (g : Goes p e below s Q K N (T.setTop (mkF m n Ls rest))) : Goes p e below s Q K N (T.setTop (mkF m pc Ls (.ref a :: rest))) := by
  exact g.via fun t k => XS.ifnonnullYes X.here hx rfl rfl hd rfl ho hn k
theorem o_ifnonnullN (X : Stand p l e R s m args below meth c T locs cells slots) (hx : p.tables.exec = Jvm.exec) {o : Int} (hd : decode c.code pc = .ok (.ifnonnull o, 3)) (hn : pc + 3 = n) (g : Goes p e below s Q K N (T.setTop (mkF m n Ls rest))) : Goes p e below s Q K N (T.setTop (mkF m pc Ls (.null :: rest))) := by
  subst hn
  exact g.via fun t k => XS.ifnonnullNo X.here hx rfl hd rfl k
theorem o_acmp (X : Stand p l e R s m args below meth c T locs cells slots) (hx : p.tables.exec = Jvm.exec) {cd : ACond} {x y : Value} {o : Int} {same : Bool} (hd : decode c.code pc = .ok (.if_acmp cd o, 3)) (h1 : x.isRef = true) (h2 : y.isRef = true) (hq : decide (x = y) = same) (ho : 0 ≤ (pc : Int) + o) (hn : n = if acV cd same = true then ((pc : Int) + o).toNat else pc + 3) (g : Goes p e below s Q K N (T.setTop (mkF m n Ls rest))) : Goes p e below s Q K N (T.setTop (mkF m pc Ls (y :: x :: rest))) := by
  exact g.via fun t k => Jvm.RoadKit.acmp X hx (g := mkF m pc Ls _) rfl h1 h2 rfl hd rfl hq ho hn k
/-! the heap -/
theorem o_getfield (X : Stand p l e R s m args below meth c T locs cells slots) (hx : p.tables.exec = Jvm.exec) (hZ : Z.Warmed39 s.vm) {own R0 O nm d host : String} {index : Nat} (hown : s.vm.findClass own = some m.cls) (w : (Jvm.Cond.fieldLink own index R0 nm d).before a0 Z = true ∨ (Jvm.Cond.fieldLinkNest own index R0 nm d host).before a0 Z = true) (via : Via Z R0 O nm d) (eT : T.heap = h) {a : Addr} {v : Value} (F : Fld Z h a O nm d v)
    (hd : decode c.code pc = .ok (.getfield index, 3)) (hn : pc + 3 = n) (k : ∀ T', Stand p l e R s m args below meth c T' locs cells slots → T'.heap = h → Goes p e below s Q K N (T'.setTop (mkF m n Ls (v :: rest)))) : Goes p e below s Q K N (T.setTop (mkF m pc Ls (.ref a :: rest))) := by
  subst hn
  obtain ⟨T', X', e', st'⟩ := getF X hx hZ hown w via eT F (g := mkF m pc Ls (.ref a :: rest)) rfl rfl hd
  exact (k T' X' e').via st'
theorem o_putfield (X : Stand p l e R s m args below meth c T locs cells slots) (hx : p.tables.exec = Jvm.exec) (hZ : Z.Warmed39 s.vm) {own R0 O nm d host C : String} {index kk : Nat} {ty : FieldType} (hown : s.vm.findClass own = some m.cls) (w : (Jvm.Cond.fieldLink own index R0 nm d).before a0 Z = true ∨ (Jvm.Cond.fieldLinkNest own index R0 nm d host).before a0 Z = true) (via : Via Z R0 O nm d) (eT : T.heap = h) {a : Addr} {v old : Value} (F : Fld Z h a O nm d old) (E : Exa Z h a C)
    (L : (Jvm.Cond.lays C O nm d).before a0 Z = true ∨ ((Jvm.Cond.laysFinal C O nm d).before a0 Z = true ∧ own = O ∧ meth.name = "<init>")) (wi : (Jvm.Cond.instantiable C kk).before a0 Z = true) (hty : parseFieldDescriptor d = some ty) (hnn : narrow ty v = v) (hf : fits ty v = true) (hd : decode c.code pc = .ok (.putfield index, 3)) (hn : pc + 3 = n)
    (k : ∀ T' h', Stand p l e R s m args below meth c T' (locs ++ [⟨a, Jvm.RoadKit.slotOf Z O nm d⟩]) cells slots → T'.heap = h' → Wr h h' a (Jvm.RoadKit.slotOf Z O nm d) v → Fld Z h' a O nm d v → Exa Z h' a C → Goes p e below s Q K N (T'.setTop (mkF m n Ls rest))) : Goes p e below s Q K N (T.setTop (mkF m pc Ls (v :: .ref a :: rest))) := by
  subst hn
  obtain ⟨T', h', X', e', W, st'⟩ := putF X hx hZ hown w via eT F E L wi hty hnn hf (g := mkF m pc Ls (v :: .ref a :: rest)) rfl rfl hd
  exact (k T' h' X' e' W (F.same W) (E.wr W)).via st'
theorem o_getstatic (X : Stand p l e R s m args below meth c T locs cells slots) (hx : p.tables.exec = Jvm.exec) (hZ : Z.Warmed39 s.vm) {own R0 O nm d host : String} {index : Nat} (hown : s.vm.findClass own = some m.cls) (w : (Jvm.Cond.fieldLink own index R0 nm d).before a0 Z = true ∨ (Jvm.Cond.fieldLinkNest own index R0 nm d host).before a0 Z = true) (via : Via Z R0 O nm d) (eT : T.heap = h) {v : Value} (F : Sta Z h O nm d v)
    (hd : decode c.code pc = .ok (.getstatic index, 3)) (hn : pc + 3 = n) (k : ∀ T', Stand p l e R s m args below meth c T' locs cells slots → T'.heap = h → Goes p e below s Q K N (T'.setTop (mkF m n Ls (v :: st)))) : Goes p e below s Q K N (T.setTop (mkF m pc Ls st)) := by
  subst hn
  obtain ⟨T', X', e', st'⟩ := getS2 X hx hZ hown w via eT F (g := mkF m pc Ls st) rfl hd
  exact (k T' X' e').via st'
theorem o_new (X : Stand p l e R s m args below meth c T locs cells slots) (hx : p.tables.exec = Jvm.exec) (hZ : Z.Warmed39 s.vm) {own C : String} {index kk : Nat} (hown : s.vm.findClass own = some m.cls) (w : (Jvm.Cond.classLink own index C).before a0 Z = true) (wi : (Jvm.Cond.instantiable C kk).before a0 Z = true) (wz : (Jvm.Cond.initialized C).before a0 Z = true) (eT : T.heap = h)
    (hd : decode c.code pc = .ok (.new index, 3)) (hc : cells + 1 ≤ R.cells) (hs : slots + kk ≤ R.slots) (hn : pc + 3 = n)
    (k : ∀ T' h' a, Stand p l e R s m args below meth c T' locs (cells + 1) (slots + kk) → T'.heap = h' → a = h.size → Ext h h' → Exa Z h' a C → (∀ {O nm d : String} {ty : FieldType}, Laid Z a0 C O nm d → parseFieldDescriptor d = some ty → Fld Z h' a O nm d (defaultValue ty)) → Goes p e below s Q K N (T'.setTop (mkF m n Ls (.ref a :: st)))) : Goes p e below s Q K N (T.setTop (mkF m pc Ls st)) := by
  subst hn
  obtain ⟨T', h', X', e', E, A, D, -, st'⟩ := newO X hx hZ hown w wi wz eT (g := mkF m pc Ls st) rfl hd hc hs
  exact (k T' h' _ X' e' rfl E A D).via st'
theorem o_newarray (X : Stand p l e R s m args below meth c T locs cells slots) (hx : p.tables.exec = Jvm.exec) (hZ : Z.Warmed39 s.vm) {aty : ArrayType} (w : (Jvm.Cond.arrayClass (newarray.typeOf aty)).before a0 Z = true) (eT : T.heap = h) {z : Int32} (hd : decode c.code pc = .ok (.newarray aty, 2)) (hz : ¬ z < 0) (cap : Nat) (hcap : z.toNatClampNeg ≤ cap) (hb : cap * 8 ≤ 536870912) (hc : cells + 1 ≤ R.cells) (hs : slots + cap ≤ R.slots) (hn : pc + 2 = n)
    (k : ∀ T' h' a cA, Stand p l e R s m args below meth c T' locs (cells + 1) (slots + cap) → T'.heap = h' → a = h.size → Ext h h' → Arv Z h' a cA (newarray.typeOf aty) z [] (defaultValue (newarray.typeOf aty)) → Goes p e below s Q K N (T'.setTop (mkF m n Ls (.ref a :: rest)))) : Goes p e below s Q K N (T.setTop (mkF m pc Ls (.int z :: rest))) := by
  subst hn
  obtain ⟨T', h', cA, X', e', E, A, st'⟩ := newP X hx hZ w eT (g := mkF m pc Ls (.int z :: rest)) rfl hd rfl hz hcap hb hc hs
  exact (k T' h' _ cA X' e' rfl E (Arv.new A hz)).via st'
theorem o_arraylength (X : Stand p l e R s m args below meth c T locs cells slots) (hx : p.tables.exec = Jvm.exec) (hZ : Z.Warmed39 s.vm) (eT : T.heap = h) {a : Addr} {k : ClassId} {ty : FieldType} {z : Int32} {vs : List Value} {dv : Value} (V : Arv Z h a k ty z vs dv) (hd : decode c.code pc = .ok (.arraylength, 1)) (hn : pc + 1 = n) (g : Goes p e below s Q K N (T.setTop (mkF m n Ls (.int z :: rest)))) : Goes p e below s Q K N (T.setTop (mkF m pc Ls (.ref a :: rest))) := by
  subst hn
  obtain ⟨cl, A, -, S, M, -, -⟩ := V
  refine g.via fun t k => X.arraylength hx (by rw [eT]; exact A.1) (State.isArrayOf_alike hZ.alike A.2.1) (g := mkF m pc Ls (.ref a :: rest)) rfl rfl hd t ?_
  rw [len_of S M]; exact k
theorem o_iaload (X : Stand p l e R s m args below meth c T locs cells slots) (hx : p.tables.exec = Jvm.exec) (hZ : Z.Warmed39 s.vm) (eT : T.heap = h) {a : Addr} {k : ClassId} {z j : Int32} {vs : List Value} {dv v : Value} (V : Arv Z h a k .int z vs dv) (i : Nat) (hi : j.toNatClampNeg = i) (hj : ¬ j < 0 ∧ j < z) (hv : vs.getD i dv = v) (hd : decode c.code pc = .ok (.iaload, 1)) (hn : pc + 1 = n) (g : Goes p e below s Q K N (T.setTop (mkF m n Ls (v :: rest)))) : Goes p e below s Q K N (T.setTop (mkF m pc Ls (.int j :: .ref a :: rest))) := by
  subst hn hi
  obtain ⟨cl, A, -, S, M, H, -⟩ := V
  exact g.via fun t k => X.iaload hx (by rw [eT]; exact A.1) (State.isArrayOf_alike hZ.alike A.2.1) A.2.2 (inb_of S hj) (Has.at H (inb_of S hj) hv) (g := mkF m pc Ls (.int j :: .ref a :: rest)) rfl rfl hd t k
theorem o_laload (X : Stand p l e R s m args below meth c T locs cells slots) (hx : p.tables.exec = Jvm.exec) (hZ : Z.Warmed39 s.vm) (eT : T.heap = h) {a : Addr} {k : ClassId} {z j : Int32} {vs : List Value} {dv v : Value} (V : Arv Z h a k .long z vs dv) (i : Nat) (hi : j.toNatClampNeg = i) (hj : ¬ j < 0 ∧ j < z) (hv : vs.getD i dv = v) (hd : decode c.code pc = .ok (.laload, 1)) (hn : pc + 1 = n) (g : Goes p e below s Q K N (T.setTop (mkF m n Ls (v :: rest)))) : Goes p e below s Q K N (T.setTop (mkF m pc Ls (.int j :: .ref a :: rest))) := by
  subst hn hi
  obtain ⟨cl, A, -, S, M, H, -⟩ := V
  exact g.via fun t k => X.laload hx (by rw [eT]; exact A.1) (State.isArrayOf_alike hZ.alike A.2.1) A.2.2 (inb_of S hj) (Has.at H (inb_of S hj) hv) (g := mkF m pc Ls (.int j :: .ref a :: rest)) rfl rfl hd t k
theorem o_baload (X : Stand p l e R s m args below meth c T locs cells slots) (hx : p.tables.exec = Jvm.exec) (hZ : Z.Warmed39 s.vm) (eT : T.heap = h) {a : Addr} {k : ClassId} {z j : Int32} {vs : List Value} {dv v : Value} (V : Arv Z h a k .byte z vs dv) (i : Nat) (hi : j.toNatClampNeg = i) (hj : ¬ j < 0 ∧ j < z) (hv : vs.getD i dv = v) (hd : decode c.code pc = .ok (.baload, 1)) (hn : pc + 1 = n) (g : Goes p e below s Q K N (T.setTop (mkF m n Ls (v :: rest)))) : Goes p e below s Q K N (T.setTop (mkF m pc Ls (.int j :: .ref a :: rest))) := by
  subst hn hi
  obtain ⟨cl, A, -, S, M, H, -⟩ := V
  exact g.via fun t k => X.baloadBytes hx (by rw [eT]; exact A.1) (State.isArrayOf_alike hZ.alike A.2.1) A.2.2 (inb_of S hj) (Has.at H (inb_of S hj) hv) (g := mkF m pc Ls (.int j :: .ref a :: rest)) rfl rfl hd t k
theorem o_baloadZ (X : Stand p l e R s m args below meth c T locs cells slots) (hx : p.tables.exec = Jvm.exec) (hZ : Z.Warmed39 s.vm) (eT : T.heap = h) {a : Addr} {k : ClassId} {z j : Int32} {vs : List Value} {dv v : Value} (V : Arv Z h a k .boolean z vs dv) (i : Nat) (hi : j.toNatClampNeg = i) (hj : ¬ j < 0 ∧ j < z) (hv : vs.getD i dv = v) (hd : decode c.code pc = .ok (.baload, 1)) (hn : pc + 1 = n) (g : Goes p e below s Q K N (T.setTop (mkF m n Ls (v :: rest)))) : Goes p e below s Q K N (T.setTop (mkF m pc Ls (.int j :: .ref a :: rest))) := by
  subst hn hi
  obtain ⟨cl, A, -, S, M, H, -⟩ := V
  exact g.via fun t k => X.baloadBooleans hx (by rw [eT]; exact A.1) (State.isArrayOf_alike hZ.alike A.2.1) A.2.2 (inb_of S hj) (Has.at H (inb_of S hj) hv) (g := mkF m pc Ls (.int j :: .ref a :: rest)) rfl rfl hd t k
theorem o_aaload (X : Stand p l e R s m args below meth c T locs cells slots) (hx : p.tables.exec = Jvm.exec) (hZ : Z.Warmed39 s.vm) (eT : T.heap = h) {a : Addr} {k : ClassId} {ty : FieldType} {z j : Int32} {vs : List Value} {dv v : Value} (V : Arv Z h a k ty z vs dv) (hty : ty.isReference = true) (i : Nat) (hi : j.toNatClampNeg = i) (hj : ¬ j < 0 ∧ j < z) (hv : vs.getD i dv = v) (hd : decode c.code pc = .ok (.aaload, 1)) (hn : pc + 1 = n) (g : Goes p e below s Q K N (T.setTop (mkF m n Ls (v :: rest)))) : Goes p e below s Q K N (T.setTop (mkF m pc Ls (.int j :: .ref a :: rest))) := by
  subst hn hi
  obtain ⟨cl, A, -, S, M, H, -⟩ := V
  exact g.via fun t k => X.aaload hx (by rw [eT]; exact A.1) (State.isArrayOf_alike hZ.alike A.2.1) hty A.2.2 (inb_of S hj) (Has.at H (inb_of S hj) hv) (g := mkF m pc Ls (.int j :: .ref a :: rest)) rfl rfl hd t k
theorem o_iastore (X : Stand p l e R s m args below meth c T locs cells slots) (hx : p.tables.exec = Jvm.exec) (hZ : Z.Warmed39 s.vm) (eT : T.heap = h) {a : Addr} {k : ClassId} {z j : Int32} {x : Int32} {vs vs' : List Value} {dv w : Value} (V : Arv Z h a k .int z vs dv) (i : Nat) (hi : j.toNatClampNeg = i) (hj : ¬ j < 0 ∧ j < z) (hlen : i < vs.length) (hw : (.int x) = w) (hvs : vs.set i w = vs') (hd : decode c.code pc = .ok (.iastore, 1)) (hn : pc + 1 = n)
    (g : ∀ T' h', Stand p l e R s m args below meth c T' (locs ++ [⟨a, j.toNatClampNeg⟩]) cells slots → T'.heap = h' → Wr h h' a j.toNatClampNeg w → Arv Z h' a k .int z vs' dv → Goes p e below s Q K N (T'.setTop (mkF m n Ls rest))) : Goes p e below s Q K N (T.setTop (mkF m pc Ls (.int x :: .int j :: .ref a :: rest))) := by
  subst hn hvs hw
  obtain ⟨cl, A, q1, S, M, H, G⟩ := V
  obtain ⟨T', h', X', e', W, st'⟩ := stI X hx hZ eT A (j := j) (inb_of S hj) (g := mkF m pc Ls (.int x :: .int j :: .ref a :: rest)) rfl rfl hd
  exact (g T' h' X' e' W (Arv.set A q1 S M H G rfl W i hi hlen)).via st'
theorem o_lastore (X : Stand p l e R s m args below meth c T locs cells slots) (hx : p.tables.exec = Jvm.exec) (hZ : Z.Warmed39 s.vm) (eT : T.heap = h) {a : Addr} {k : ClassId} {z j : Int32} {x : Int64} {vs vs' : List Value} {dv w : Value} (V : Arv Z h a k .long z vs dv) (i : Nat) (hi : j.toNatClampNeg = i) (hj : ¬ j < 0 ∧ j < z) (hlen : i < vs.length) (hw : (.long x) = w) (hvs : vs.set i w = vs') (hd : decode c.code pc = .ok (.lastore, 1)) (hn : pc + 1 = n)
    (g : ∀ T' h', Stand p l e R s m args below meth c T' (locs ++ [⟨a, j.toNatClampNeg⟩]) cells slots → T'.heap = h' → Wr h h' a j.toNatClampNeg w → Arv Z h' a k .long z vs' dv → Goes p e below s Q K N (T'.setTop (mkF m n Ls rest))) : Goes p e below s Q K N (T.setTop (mkF m pc Ls (.long x :: .int j :: .ref a :: rest))) := by
  subst hn hvs hw
  obtain ⟨cl, A, q1, S, M, H, G⟩ := V
  obtain ⟨T', h', X', e', W, st'⟩ := stJ X hx hZ eT A (j := j) (inb_of S hj) (g := mkF m pc Ls (.long x :: .int j :: .ref a :: rest)) rfl rfl hd
  exact (g T' h' X' e' W (Arv.set A q1 S M H G rfl W i hi hlen)).via st'
theorem o_bastore (X : Stand p l e R s m args below meth c T locs cells slots) (hx : p.tables.exec = Jvm.exec) (hZ : Z.Warmed39 s.vm) (eT : T.heap = h) {a : Addr} {k : ClassId} {z j : Int32} {x : Int32} {vs vs' : List Value} {dv w : Value} (V : Arv Z h a k .byte z vs dv) (i : Nat) (hi : j.toNatClampNeg = i) (hj : ¬ j < 0 ∧ j < z) (hlen : i < vs.length) (hw : (.int (nar .byte x)) = w) (hvs : vs.set i w = vs') (hd : decode c.code pc = .ok (.bastore, 1)) (hn : pc + 1 = n)
    (g : ∀ T' h', Stand p l e R s m args below meth c T' (locs ++ [⟨a, j.toNatClampNeg⟩]) cells slots → T'.heap = h' → Wr h h' a j.toNatClampNeg w → Arv Z h' a k .byte z vs' dv → Goes p e below s Q K N (T'.setTop (mkF m n Ls rest))) : Goes p e below s Q K N (T.setTop (mkF m pc Ls (.int x :: .int j :: .ref a :: rest))) := by
  subst hn hvs hw
  obtain ⟨cl, A, q1, S, M, H, G⟩ := V
  obtain ⟨T', h', X', e', W, st'⟩ := stB X hx hZ eT A (j := j) (inb_of S hj) (g := mkF m pc Ls (.int x :: .int j :: .ref a :: rest)) rfl rfl hd
  exact (g T' h' X' e' W (Arv.set A q1 S M H G (fits_nar_byte x) W i hi hlen)).via st'
theorem o_bastoreZ (X : Stand p l e R s m args below meth c T locs cells slots) (hx : p.tables.exec = Jvm.exec) (hZ : Z.Warmed39 s.vm) (eT : T.heap = h) {a : Addr} {k : ClassId} {z j : Int32} {x : Int32} {vs vs' : List Value} {dv w : Value} (V : Arv Z h a k .boolean z vs dv) (i : Nat) (hi : j.toNatClampNeg = i) (hj : ¬ j < 0 ∧ j < z) (hlen : i < vs.length) (hw : (.int (nar .boolean x)) = w) (hvs : vs.set i w = vs') (hd : decode c.code pc = .ok (.bastore, 1)) (hn : pc + 1 = n)
    (g : ∀ T' h', Stand p l e R s m args below meth c T' (locs ++ [⟨a, j.toNatClampNeg⟩]) cells slots → T'.heap = h' → Wr h h' a j.toNatClampNeg w → Arv Z h' a k .boolean z vs' dv → Goes p e below s Q K N (T'.setTop (mkF m n Ls rest))) : Goes p e below s Q K N (T.setTop (mkF m pc Ls (.int x :: .int j :: .ref a :: rest))) := by
  subst hn hvs hw
  obtain ⟨cl, A, q1, S, M, H, G⟩ := V
  obtain ⟨T', h', X', e', W, st'⟩ := stZ X hx hZ eT A (j := j) (inb_of S hj) (g := mkF m pc Ls (.int x :: .int j :: .ref a :: rest)) rfl rfl hd
  exact (g T' h' X' e' W (Arv.set A q1 S M H G (fits_nar_bool x) W i hi hlen)).via st'

/-! calls -/
theorem o_initO (X : Stand p l e R s m args below meth c T locs cells slots) (hx : p.tables.exec = Jvm.exec) (hZ : Z.Warmed39 s.vm) {own : String} {idx : Nat} (hown : s.vm.findClass own = some m.cls) (w1 : (Jvm.Cond.methodLink own idx Lib.objectInit).before a0 Z = true) (w2 : (Jvm.Cond.instanceMethod Lib.objectInit).before a0 Z = true) (w3 : (Jvm.Cond.code Lib.objectInit ⟨#[0xb1]⟩ 1 none).before a0 Z = true) (eT : T.heap = h) (hsize : Ls.size = c.maxLocals) {a : Addr} (hd : decode c.code pc = .ok (.invokespecial idx, 3)) (hf : 1 ≤ R.frames) (W : Nat) (hW : (rest.map fun v => v.category).sum ≤ W) (hl : W + 12 ≤ R.locals) (hn : pc + 3 = n)
    (k : ∀ T', Stand p l e R s m args below meth c T' locs cells slots → T'.heap = h → Goes p e below s Q K N (T'.setTop (mkF m n Ls rest))) : Goes p e below s Q K N (T.setTop (mkF m pc Ls (.ref a :: rest))) := by
  subst hn
  obtain ⟨T', X', e', st'⟩ := initO X hx hZ hown w1 w2 w3 eT (g := mkF m pc Ls (.ref a :: rest)) rfl hsize rfl hd hf (W := W) (by show 2 * 0 + _ ≤ _; omega) hl
  exact (k T' X' e').via st'
theorem o_callS (X : Stand p l e R s m args below meth c T locs cells slots) (hx : p.tables.exec = Jvm.exec) (hZ : Z.Warmed39 s.vm) {own : String} {index : Nat} {y : MethodName} {bytes : ByteArray} {maxL : Nat} {ret : Option FieldType} {rm : Room} (hown : s.vm.findClass own = some m.cls) (w1 : (Jvm.Cond.methodLink own index y).before a0 Z = true) (w2 : (Jvm.Cond.static y).before a0 Z = true) (w3 : (Jvm.Cond.initialized y.cls).before a0 Z = true) (w4 : (Jvm.Cond.code y bytes maxL ret).before a0 Z = true) (hy : y.cls ≠ "java/lang/invoke/MethodHandle" ∧ y.cls ≠ "java/lang/invoke/VarHandle") (eT : T.heap = h)
    {argsL rest : List Value} {Q' : Option Value → Heap → List Loc → Prop} (hM : Does l Z y bytes maxL ret [] rm argsL.toArray h Q') (W : Nat) (hf : rm.frames + 1 ≤ R.frames) (hl : W + (maxL + 11) + rm.locals ≤ R.locals) (hc : cells + rm.cells ≤ R.cells) (hs : slots + rm.slots ≤ R.slots) (hsize : Ls.size = c.maxLocals) (hlen : ∀ sig, parseMethodDescriptor y.desc = some sig → argsL.length = sig.parameters.length) (hst : st = argsL.reverse ++ rest) (hW : (rest.map fun v => v.category).sum ≤ W) (hd : decode c.code pc = .ok (.invokestatic index, 3)) (hn : pc + 3 = n)
    (k : ∀ v T' L', Stand p l e R s m args below meth c T' (locs ++ L') (cells + rm.cells) (slots + rm.slots) → Q' v T'.heap L' → Goes p e below s Q K N (T'.setTop (mkF m n Ls (v.toList ++ rest)))) : Goes p e below s Q K N (T.setTop (mkF m pc Ls st)) := by
  subst hn
  obtain ⟨v, _, ⟨T', L, kk, nn⟩, -, X', ⟨Lc, hQ, l', y', z'⟩, st'⟩ := Jvm.LawKit.callS X hx (y := y) hown (mvT hZ w1) (mvT hZ w2) (mvT hZ w3) (mvT hZ w4) hy (backOf (W := W) hM hZ w4 w3 hf hl) (g := mkF m pc Ls st) rfl hsize (argsL := argsL) (rest := rest) hlen hst (by show 2 * 0 + _ ≤ _; omega) hd (fun _ _ => ⟨rfl, eT, hc, hs⟩)
  dsimp only [Pt.U, Pt.locs, Pt.cells, Pt.slots] at X' l' y' z' st' hQ
  subst l' y' z'
  exact (k v T' Lc X' hQ).via st'
theorem o_callN (X : Stand p l e R s m args below meth c T locs cells slots) (hx : p.tables.exec = Jvm.exec) (hZ : Z.Warmed39 s.vm) {own : String} {index : Nat} {y : MethodName} {bytes : ByteArray} {maxL : Nat} {rm : Room} (hy1 : y.name = "<init>") (hown : s.vm.findClass own = some m.cls) (w1 : (Jvm.Cond.methodLink own index y).before a0 Z = true) (w2 : (Jvm.Cond.instanceMethod y).before a0 Z = true) (w3 : (Jvm.Cond.initialized y.cls).before a0 Z = true) (w4 : (Jvm.Cond.code y bytes maxL none).before a0 Z = true) (hy : y.cls ≠ "java/lang/invoke/MethodHandle" ∧ y.cls ≠ "java/lang/invoke/VarHandle") (eT : T.heap = h)
    {a : Addr} {argsL rest : List Value} {Q' : Option Value → Heap → List Loc → Prop} (hM : Does l Z y bytes maxL none [] rm (.ref a :: argsL).toArray h Q') (W : Nat) (hf : rm.frames + 1 ≤ R.frames) (hl : W + (maxL + 11) + rm.locals ≤ R.locals) (hc : cells + rm.cells ≤ R.cells) (hs : slots + rm.slots ≤ R.slots) (hsize : Ls.size = c.maxLocals) (hlen : ∀ sig, parseMethodDescriptor y.desc = some sig → argsL.length = sig.parameters.length) (hst : st = argsL.reverse ++ .ref a :: rest) (hW : (rest.map fun v => v.category).sum ≤ W) (hd : decode c.code pc = .ok (.invokespecial index, 3)) (hn : pc + 3 = n)
    (k : ∀ v T' L', Stand p l e R s m args below meth c T' (locs ++ L') (cells + rm.cells) (slots + rm.slots) → Q' v T'.heap L' → Goes p e below s Q K N (T'.setTop (mkF m n Ls (v.toList ++ rest)))) : Goes p e below s Q K N (T.setTop (mkF m pc Ls st)) := by
  subst hn
  obtain ⟨v, _, ⟨T', L, kk, nn⟩, -, X', ⟨Lc, hQ, l', y', z'⟩, st'⟩ := X.specialBack hx (y := y) hy1 hown (mvT hZ w1) (mvT hZ w2) (mvT hZ w4) hy (backOf (W := W) hM hZ w4 w3 hf hl) (g := mkF m pc Ls st) rfl hsize (Steps.refl _) (a := a) (argsL := argsL) (rest := rest) hlen hst (by show 2 * 0 + _ ≤ _; omega) hd (fun _ _ => ⟨rfl, eT, hc, hs⟩)
  dsimp only [Pt.U, Pt.locs, Pt.cells, Pt.slots] at X' l' y' z' st' hQ
  subst l' y' z'
  exact (k v T' Lc X' hQ).via fun t q => st'.trans q
theorem o_callV (X : Stand p l e R s m args below meth c T locs cells slots) (hx : p.tables.exec = Jvm.exec) (hZ : Z.Warmed39 s.vm) {own C : String} {index : Nat} {y : MethodName} {bytes : ByteArray} {maxL : Nat} {ret : Option FieldType} {rm : Room} (hown : s.vm.findClass own = some m.cls) (w1 : (Jvm.Cond.methodLink own index y).before a0 Z = true) (w2 : (Jvm.Cond.declares y).before a0 Z = true) (w5 : (Jvm.Cond.selects C y y).before a0 Z = true) (w6 : (Jvm.Cond.instanceMethod y).before a0 Z = true) (w3 : (Jvm.Cond.initialized y.cls).before a0 Z = true) (w4 : (Jvm.Cond.code y bytes maxL ret).before a0 Z = true) (hy : y.cls ≠ "java/lang/invoke/MethodHandle" ∧ y.cls ≠ "java/lang/invoke/VarHandle") (eT : T.heap = h)
    {a : Addr} (E : Exa Z h a C) {argsL rest : List Value} {Q' : Option Value → Heap → List Loc → Prop} (hM : Does l Z y bytes maxL ret [] rm (.ref a :: argsL).toArray h Q') (W : Nat) (hf : rm.frames + 1 ≤ R.frames) (hl : W + (maxL + 11) + rm.locals ≤ R.locals) (hc : cells + rm.cells ≤ R.cells) (hs : slots + rm.slots ≤ R.slots) (hsize : Ls.size = c.maxLocals) (hlen : ∀ sig, parseMethodDescriptor y.desc = some sig → argsL.length = sig.parameters.length) (hst : st = argsL.reverse ++ .ref a :: rest) (hW : (rest.map fun v => v.category).sum ≤ W) (hd : decode c.code pc = .ok (.invokevirtual index, 3)) (hn : pc + 3 = n)
    (k : ∀ v T' L', Stand p l e R s m args below meth c T' (locs ++ L') (cells + rm.cells) (slots + rm.slots) → Q' v T'.heap L' → Goes p e below s Q K N (T'.setTop (mkF m n Ls (v.toList ++ rest)))) : Goes p e below s Q K N (T.setTop (mkF m pc Ls st)) := by
  subst hn
  obtain ⟨cq, kq, qa, qb, qc⟩ := isOf hZ eT E
  obtain ⟨v, _, ⟨T', L, kk, nn⟩, -, X', ⟨Lc, hQ, l', y', z'⟩, st'⟩ := X.virtualBack hx (y := y) (z := y) hown (mvT hZ w1) (mvT hZ w2) (notFace_of_selects (args := #[]) (mvT hZ w5)) (mvT hZ w5) (mvT hZ w6) hy (backOf (W := W) hM hZ w4 w3 hf hl) qa qc (g := mkF m pc Ls st) rfl hsize (Steps.refl _) (argsL := argsL) (rest := rest) hlen hst (by show 2 * 0 + _ ≤ _; omega) hd (fun _ _ => ⟨rfl, eT, hc, hs⟩)
  dsimp only [Pt.U, Pt.locs, Pt.cells, Pt.slots] at X' l' y' z' st' hQ
  subst l' y' z'
  exact (k v T' Lc X' hQ).via fun t q => st'.trans q
/-- a private method is the one that is selected -/
theorem o_selpriv {y : MethodName} {kk : Nat} (hy : y.cls ≠ "java/lang/invoke/MethodHandle" ∧ y.cls ≠ "java/lang/invoke/VarHandle") (hins : (Jvm.Cond.instantiable y.cls kk).before args s = true) (hpriv : (Jvm.Cond.privateMethod y).before args s = true) (hinst : (Jvm.Cond.instanceMethod y).before args s = true) : (Jvm.Cond.selects y.cls y y).before args s = true := by
  obtain ⟨c, k, hc, hk, -, hniab, -, -⟩ := Cond.instantiable_spec hins
  have hni : k.isInterface = false := (Bool.or_eq_false_iff.mp hniab).1
  obtain ⟨mk, methM, hnamed, hmethM, -, -⟩ := Cond.instanceMethod_spec hinst
  have hfound : s.methodFound? y.cls y.name y.desc = some mk := State.methodFound?_of_named hnamed hy
  have hcls : mk.cls = c := Option.some.inj ((findClass_of_methodNamed hnamed).symm.trans hc)
  have hsel : selectMethod {} s.vm c mk = .method mk := selectMethod_private hmethM (Cond.privateMethod_at hpriv mk methM hnamed hmethM)
  simp only [Cond.before, Cond.holds, Cond.value, hc, hfound, hnamed, hsel, hcls, hk]
  simp; exact hni
theorem o_callP (X : Stand p l e R s m args below meth c T locs cells slots) (hx : p.tables.exec = Jvm.exec) (hZ : Z.Warmed39 s.vm) {own C : String} {index kk : Nat} {y : MethodName} {bytes : ByteArray} {maxL : Nat} {ret : Option FieldType} {rm : Room} (hown : s.vm.findClass own = some m.cls) (w1 : (Jvm.Cond.methodLink own index y).before a0 Z = true) (w6 : (Jvm.Cond.instanceMethod y).before a0 Z = true) (w5 : (Jvm.Cond.privateMethod y).before a0 Z = true) (wi : (Jvm.Cond.instantiable y.cls kk).before a0 Z = true) (w3 : (Jvm.Cond.initialized y.cls).before a0 Z = true) (w4 : (Jvm.Cond.code y bytes maxL ret).before a0 Z = true) (hy : y.cls ≠ "java/lang/invoke/MethodHandle" ∧ y.cls ≠ "java/lang/invoke/VarHandle") (eT : T.heap = h)
    {a : Addr} (E : Exa Z h a C) {argsL rest : List Value} {Q' : Option Value → Heap → List Loc → Prop} (hM : Does l Z y bytes maxL ret [] rm (.ref a :: argsL).toArray h Q') (W : Nat) (hf : rm.frames + 1 ≤ R.frames) (hl : W + (maxL + 11) + rm.locals ≤ R.locals) (hc : cells + rm.cells ≤ R.cells) (hs : slots + rm.slots ≤ R.slots) (hsize : Ls.size = c.maxLocals) (hlen : ∀ sig, parseMethodDescriptor y.desc = some sig → argsL.length = sig.parameters.length) (hst : st = argsL.reverse ++ .ref a :: rest) (hW : (rest.map fun v => v.category).sum ≤ W) (hd : decode c.code pc = .ok (.invokevirtual index, 3)) (hn : pc + 3 = n)
    (k : ∀ v T' L', Stand p l e R s m args below meth c T' (locs ++ L') (cells + rm.cells) (slots + rm.slots) → Q' v T'.heap L' → Goes p e below s Q K N (T'.setTop (mkF m n Ls (v.toList ++ rest)))) : Goes p e below s Q K N (T.setTop (mkF m pc Ls st)) := by
  subst hn
  obtain ⟨cl, hcl, hob⟩ := E.cell
  obtain ⟨v, _, ⟨T', L, kk, nn⟩, -, X', ⟨Lc, hQ, l', y', z'⟩, st'⟩ := X.privateBack hx (y := y) hown (mvT hZ w1) (mvT hZ w6) (o_selpriv hy (mvT hZ wi) (mvP hZ w5) (mvT hZ w6)) (Cond.privateMethod_at (mvP hZ w5 (args := #[]))) (mvT hZ w4) hy (backOf (W := W) hM hZ w4 w3 hf hl) (g := mkF m pc Ls st) rfl hsize (Steps.refl _) (a := a) (by rw [eT]; exact hcl) hob (argsL := argsL) (rest := rest) hlen hst (by show 2 * 0 + _ ≤ _; omega) hd (fun _ _ => ⟨rfl, eT, hc, hs⟩)
  dsimp only [Pt.U, Pt.locs, Pt.cells, Pt.slots] at X' l' y' z' st' hQ
  subst l' y' z'
  exact (k v T' Lc X' hQ).via fun t q => st'.trans q
/-! returns -/
theorem o_retW (X : Stand p l e R s m args below meth c T locs cells slots) (hx : p.tables.exec = Jvm.exec) {t : FieldType} {w : Value} {i : Instr} (hret : meth.sig.returnType = some t) (hlk : meth.locks = false) (hnw : narrow t w = w)
    (hi : (i = .ireturn ∧ (t = .int ∨ t = .boolean ∨ t = .byte ∨ t = .char ∨ t = .short) ∧ ∃ z, w = .int z) ∨ (i = .lreturn ∧ t = .long ∧ ∃ z, w = .long z) ∨ (i = .dreturn ∧ t = .double ∧ ∃ z, w = .double z) ∨ (i = .freturn ∧ t = .float ∧ ∃ z, w = .float z) ∨ (i = .areturn ∧ t.isReference = true ∧ w.isRef = true))
    (hd : decode c.code pc = .ok (i, 1)) (hc : cells ≤ K) (hs : slots ≤ N) (eT : T.heap = h) (hQ : Q (some w) h locs) : Goes p e below s Q K N (T.setTop (mkF m pc Ls (w :: rest))) := by
  subst eT
  obtain ⟨fs, hr, hrun, hended, hW, hsame⟩ := X.leave (v := some w) (fun q => by rw [hret] at q; cases q) hlk
  exact ⟨_, _, retOut X hx hret hnw hi hd hr, hrun, hended, _, _, rfl, hQ, ⟨_, rfl⟩, hW, hsame.mono hc hs⟩
theorem o_ireturn (X : Stand p l e R s m args below meth c T locs cells slots) (hx : p.tables.exec = Jvm.exec) {x : Int32} (hret : meth.sig.returnType = some .int) (hlk : meth.locks = false) (hd : decode c.code pc = .ok (.ireturn, 1)) (hc : cells ≤ K) (hs : slots ≤ N) (eT : T.heap = h) (hQ : Q (some (.int x)) h locs) : Goes p e below s Q K N (T.setTop (mkF m pc Ls (.int x :: rest))) := o_retW X hx hret hlk rfl (Or.inl ⟨rfl, Or.inl rfl, x, rfl⟩) hd hc hs eT hQ
theorem o_lreturn (X : Stand p l e R s m args below meth c T locs cells slots) (hx : p.tables.exec = Jvm.exec) {x : Int64} (hret : meth.sig.returnType = some .long) (hlk : meth.locks = false) (hd : decode c.code pc = .ok (.lreturn, 1)) (hc : cells ≤ K) (hs : slots ≤ N) (eT : T.heap = h) (hQ : Q (some (.long x)) h locs) : Goes p e below s Q K N (T.setTop (mkF m pc Ls (.long x :: rest))) := o_retW X hx hret hlk rfl (Or.inr (Or.inl ⟨rfl, rfl, x, rfl⟩)) hd hc hs eT hQ
theorem o_areturn (X : Stand p l e R s m args below meth c T locs cells slots) (hx : p.tables.exec = Jvm.exec) {t : FieldType} {w : Value} (hret : meth.sig.returnType = some t) (hlk : meth.locks = false) (ht : t.isReference = true) (hw : w.isRef = true) (hd : decode c.code pc = .ok (.areturn, 1)) (hc : cells ≤ K) (hs : slots ≤ N) (eT : T.heap = h) (hQ : Q (some w) h locs) : Goes p e below s Q K N (T.setTop (mkF m pc Ls (w :: rest))) := o_retW X hx hret hlk (by cases t <;> first | rfl | cases ht) (Or.inr (Or.inr (Or.inr (Or.inr ⟨rfl, ht, hw⟩)))) hd hc hs eT hQ
/-- a boolean, byte, char or short: narrowed -/
theorem o_nreturn (X : Stand p l e R s m args below meth c T locs cells slots) (hx : p.tables.exec = Jvm.exec) {t : FieldType} {x : Int32} (hret : meth.sig.returnType = some t) (hlk : meth.locks = false) (ht : t = .boolean ∨ t = .byte ∨ t = .char ∨ t = .short) (hd : decode c.code pc = .ok (.ireturn, 1)) (hc : cells ≤ K) (hs : slots ≤ N) (eT : T.heap = h) (hQ : Q (some (.int (nar t x))) h locs) : Goes p e below s Q K N (T.setTop (mkF m pc Ls (.int x :: rest))) := by
  subst eT
  obtain ⟨fs, hr, hrun, hended, hW, hsame⟩ := X.leave (v := some (.int (nar t x))) (fun q => by rw [hret] at q; cases q) hlk
  exact ⟨_, _, retN X hx hret ht hd hr, hrun, hended, _, _, rfl, hQ, ⟨_, rfl⟩, hW, hsame.mono hc hs⟩
theorem o_return (X : Stand p l e R s m args below meth c T locs cells slots) (hx : p.tables.exec = Jvm.exec) (hret : meth.sig.returnType = none) (hlk : meth.locks = false) (hd : decode c.code pc = .ok (.return_, 1)) (hc : cells ≤ K) (hs : slots ≤ N) (eT : T.heap = h) (hQ : Q none h locs) : Goes p e below s Q K N (T.setTop (mkF m pc Ls [])) := by
  subst eT
  obtain ⟨fs, hr, hrun, hended, hW, hsame⟩ := X.leave (v := none) (fun _ => rfl) hlk
  exact ⟨_, _, X.returnOut hx hret hd hr, hrun, hended, _, _, rfl, hQ, ⟨_, rfl⟩, hW, hsame.mono hc hs⟩
/-- what a call that writes nothing promises -/
def Pur (h0 : Heap) (w : Value) (v : Option Value) (h : Heap) (L : List Loc) : Prop := v = some w ∧ h = h0 ∧ L = []
end Layer

theorem o_nz1 : nar .boolean (1 : Int32) = 1 := by decide
theorem o_nz0 : nar .boolean (0 : Int32) = 0 := by decide
theorem o_nar8 (x : Int32) : nar .byte x.toInt8.toInt32 = x.toInt8.toInt32 := by simp [nar]

theorem o_and3 (x : Int32) : x &&& 3 = 0 ∨ x &&& 3 = 1 ∨ x &&& 3 = 2 ∨ x &&& 3 = 3 := by
  have h := c_mask x 3 2 (by decide) (by decide)
  have h1 : 0 ≤ x.toInt % (2 ^ 2 : Nat) := Int.emod_nonneg _ (by decide)
  have h2 : x.toInt % (2 ^ 2 : Nat) < (2 ^ 2 : Nat) := Int.emod_lt_of_pos _ (by decide)
  rw [← h] at h1 h2
  simp only [← Int32.toInt_inj]
  have e0 : (0 : Int32).toInt = 0 := rfl
  have e1 : (1 : Int32).toInt = 1 := rfl
  have e2 : (2 : Int32).toInt = 2 := rfl
  have e3 : (3 : Int32).toInt = 3 := rfl
  omega
theorem o_rng (x lo sp cp : Int32) (l s : Int) (hl : lo.toInt = l) (hs : sp.toInt = s) (h0 : 0 ≤ l) (h1 : 0 < s) (h2 : l + s < 2147483648) (h : lo + (x &&& 2147483647) % sp = cp) : l ≤ cp.toInt ∧ cp.toInt < l + s := by
  subst h
  have a := c_mask x 2147483647 31 (by decide) (by decide)
  have b : 0 ≤ x.toInt % (2 ^ 31 : Nat) := Int.emod_nonneg _ (by decide)
  have d := (c_irem (x &&& 2147483647) sp s hs).1 (by rw [a]; exact b)
  have e1 : 0 ≤ (x &&& 2147483647).toInt % s := Int.emod_nonneg _ (by omega)
  have e2 : (x &&& 2147483647).toInt % s < s := Int.emod_lt_of_pos _ h1
  rw [← d] at e1 e2
  have g := XT.add32 (x := lo) (y := (x &&& 2147483647) % sp) ⟨by rw [hl]; omega, by rw [hl]; omega⟩
  rw [g, hl]
  omega

theorem d_prog_28_method_8_code_0 : decode prog_28_method_8_code 0 = .ok (.bipush 6, 2) := by decide +kernel
theorem d_prog_28_method_8_code_2 : decode prog_28_method_8_code 2 = .ok (.iload_n 1, 1) := by decide +kernel
theorem d_prog_28_method_8_code_3 : decode prog_28_method_8_code 3 = .ok (.iconst 1, 1) := by decide +kernel
theorem d_prog_28_method_8_code_4 : decode prog_28_method_8_code 4 = .ok (.isub, 1) := by decide +kernel
theorem d_prog_28_method_8_code_5 : decode prog_28_method_8_code 5 = .ok (.iload_n 2, 1) := by decide +kernel
theorem d_prog_28_method_8_code_6 : decode prog_28_method_8_code 6 = .ok (.isub, 1) := by decide +kernel
theorem d_prog_28_method_8_code_7 : decode prog_28_method_8_code 7 = .ok (.imul, 1) := by decide +kernel
theorem d_prog_28_method_8_code_8 : decode prog_28_method_8_code 8 = .ok (.istore_n 3, 1) := by decide +kernel
theorem d_prog_28_method_8_code_9 : decode prog_28_method_8_code 9 = .ok (.iload_n 2, 1) := by decide +kernel
theorem d_prog_28_method_8_code_10 : decode prog_28_method_8_code 10 = .ok (.ifCond .le 14, 3) := by decide +kernel
theorem d_prog_28_method_8_code_24 : decode prog_28_method_8_code 24 = .ok (.iload_n 1, 1) := by decide +kernel
theorem d_prog_28_method_8_code_25 : decode prog_28_method_8_code 25 = .ok (.iconst 1, 1) := by decide +kernel
theorem d_prog_28_method_8_code_26 : decode prog_28_method_8_code 26 = .ok (.if_icmp .ne 7, 3) := by decide +kernel
theorem d_prog_28_method_8_code_29 : decode prog_28_method_8_code 29 = .ok (.iload_n 0, 1) := by decide +kernel
theorem d_prog_28_method_8_code_30 : decode prog_28_method_8_code 30 = .ok (.goto 15, 3) := by decide +kernel
theorem d_prog_28_method_8_code_45 : decode prog_28_method_8_code 45 = .ok (.ireturn, 1) := by decide +kernel
theorem o_ef1 (m : MethodId) (p0 : Int32) : entryFrame m #[(.int p0), (.int (1 : Int32)), (.int (0 : Int32))] 4 = mkF m 0 #[.val (.int p0), .val (.int (1 : Int32)), .val (.int (0 : Int32)), .unset] [] := by first | (simp [entryFrame, mkF, argsToLocals, Value.category]; done) | rfl
theorem o_pn0 : plainName "com/example/variform/variform/variant/Utf8" = true := by first | (simp [plainName, overriddenIn]; done) | decide +kernel
set_option maxRecDepth 65536 in
set_option maxHeartbeats 40000000 in
theorem c_byteOf_1_0 (l : Launch) (Z : State) (a0 : Array Value) (hw : ∀ d ∈ tables_1, d.before a0 Z = true) (p0 : Int32) (h0 : Heap) :
    Does l Z (⟨"com/example/variform/variform/variant/Utf8", "byteOf", "(III)I"⟩ : MethodName) prog_28_method_8_code 4 (some .int) [] ({ frames := 0, cells := 0, slots := 0, locals := 0 } : Room) #[(.int p0), (.int (1 : Int32)), (.int (0 : Int32))] h0 (Pur h0 (.int p0)) := by
  refine Does.of (plainFor_of_name o_pn0) ?_
  intro p e s m below meth c T0 hx hby hml hown hnm hret hlk hZ X0 e0
  have hown : s.vm.findClass "com/example/variform/variform/variant/Utf8" = some m.cls := hown
  have hml : c.maxLocals = 4 := hml
  have hret : meth.sig.returnType = some .int := hret
  refine o_entry (o_ef1 m p0) ?_
  refine o_bipush X0 hx (hb hby d_prog_28_method_8_code_0) (v := (6 : Int32)) rfl (n := 2) rfl ?_
  refine o_iloadN X0 hx (hb hby d_prog_28_method_8_code_2) (v := (1 : Int32)) rfl (n := 3) rfl ?_
  refine o_iconst X0 hx (hb hby d_prog_28_method_8_code_3) (v := (1 : Int32)) rfl (n := 4) rfl ?_
  refine o_isub X0 hx (hb hby d_prog_28_method_8_code_4) (v := (0 : Int32)) (by decide) (n := 5) rfl ?_
  refine o_iloadN X0 hx (hb hby d_prog_28_method_8_code_5) (v := (0 : Int32)) rfl (n := 6) rfl ?_
  refine o_isub X0 hx (hb hby d_prog_28_method_8_code_6) (v := (0 : Int32)) (by decide) (n := 7) rfl ?_
  refine o_imul X0 hx (hb hby d_prog_28_method_8_code_7) (v := (0 : Int32)) (by decide) (n := 8) rfl ?_
  refine o_istoreN X0 hx (hb hby d_prog_28_method_8_code_8) (Ls' := #[.val (.int p0), .val (.int (1 : Int32)), .val (.int (0 : Int32)), .val (.int (0 : Int32))]) rfl (n := 9) rfl ?_
  refine o_iloadN X0 hx (hb hby d_prog_28_method_8_code_9) (v := (0 : Int32)) rfl (n := 10) rfl ?_
  refine o_ifY X0 hx (hb hby d_prog_28_method_8_code_10) (XT.i0_le_t (by decide)) (by decide) (n := 24) (by decide) ?_
  refine o_iloadN X0 hx (hb hby d_prog_28_method_8_code_24) (v := (1 : Int32)) rfl (n := 25) rfl ?_
  refine o_iconst X0 hx (hb hby d_prog_28_method_8_code_25) (v := (1 : Int32)) rfl (n := 26) rfl ?_
  refine o_icmpN X0 hx (hb hby d_prog_28_method_8_code_26) (XT.ii_ne_f (by decide)) (n := 29) rfl ?_
  refine o_iloadN X0 hx (hb hby d_prog_28_method_8_code_29) (v := p0) rfl (n := 30) rfl ?_
  refine o_goto X0 hx (hb hby d_prog_28_method_8_code_30) (by decide) (n := 45) (by decide) ?_
  exact o_ireturn X0 hx hret hlk (hb hby d_prog_28_method_8_code_45) (by decide) (by decide) e0 ⟨rfl, rfl, rfl⟩
theorem d_method_2_code_0 : decode method_2_code 0 = .ok (.iload_n 1, 1) := by decide +kernel
theorem d_method_2_code_1 : decode method_2_code 1 = .ok (.iconst 1, 1) := by decide +kernel
theorem d_method_2_code_2 : decode method_2_code 2 = .ok (.if_icmp .ne 5, 3) := by decide +kernel
theorem d_method_2_code_5 : decode method_2_code 5 = .ok (.iload_n 0, 1) := by decide +kernel
theorem d_method_2_code_6 : decode method_2_code 6 = .ok (.ireturn, 1) := by decide +kernel
theorem o_ef2 (m : MethodId) (p0 : Int32) : entryFrame m #[(.int p0), (.int (1 : Int32)), (.int (0 : Int32))] 7 = mkF m 0 #[.val (.int p0), .val (.int (1 : Int32)), .val (.int (0 : Int32)), .unset, .unset, .unset, .unset] [] := by first | (simp [entryFrame, mkF, argsToLocals, Value.category]; done) | rfl
theorem o_pn1 : plainName "com/example/variform/variform/variant/Utf8ByteOfPinLaw" = true := by first | (simp [plainName, overriddenIn]; done) | decide +kernel
set_option maxRecDepth 65536 in
set_option maxHeartbeats 40000000 in
theorem c_ref_1_0 (l : Launch) (Z : State) (a0 : Array Value) (hw : ∀ d ∈ tables_1, d.before a0 Z = true) (p0 : Int32) (h0 : Heap) :
    Does l Z (⟨"com/example/variform/variform/variant/Utf8ByteOfPinLaw", "ref", "(III)I"⟩ : MethodName) method_2_code 7 (some .int) [] ({ frames := 0, cells := 0, slots := 0, locals := 0 } : Room) #[(.int p0), (.int (1 : Int32)), (.int (0 : Int32))] h0 (Pur h0 (.int p0)) := by
  refine Does.of (plainFor_of_name o_pn1) ?_
  intro p e s m below meth c T0 hx hby hml hown hnm hret hlk hZ X0 e0
  have hown : s.vm.findClass "com/example/variform/variform/variant/Utf8ByteOfPinLaw" = some m.cls := hown
  have hml : c.maxLocals = 7 := hml
  have hret : meth.sig.returnType = some .int := hret
  refine o_entry (o_ef2 m p0) ?_
  refine o_iloadN X0 hx (hb hby d_method_2_code_0) (v := (1 : Int32)) rfl (n := 1) rfl ?_
  refine o_iconst X0 hx (hb hby d_method_2_code_1) (v := (1 : Int32)) rfl (n := 2) rfl ?_
  refine o_icmpN X0 hx (hb hby d_method_2_code_2) (XT.ii_ne_f (by decide)) (n := 5) rfl ?_
  refine o_iloadN X0 hx (hb hby d_method_2_code_5) (v := p0) rfl (n := 6) rfl ?_
  exact o_ireturn X0 hx hret hlk (hb hby d_method_2_code_6) (by decide) (by decide) e0 ⟨rfl, rfl, rfl⟩
theorem d_prog_28_method_8_code_33 : decode prog_28_method_8_code 33 = .ok (.ldc 93, 2) := by decide +kernel
theorem d_prog_28_method_8_code_35 : decode prog_28_method_8_code 35 = .ok (.iload_n 1, 1) := by decide +kernel
theorem d_prog_28_method_8_code_36 : decode prog_28_method_8_code 36 = .ok (.ishr, 1) := by decide +kernel
theorem d_prog_28_method_8_code_37 : decode prog_28_method_8_code 37 = .ok (.sipush 255, 3) := by decide +kernel
theorem d_prog_28_method_8_code_40 : decode prog_28_method_8_code 40 = .ok (.iand, 1) := by decide +kernel
theorem d_prog_28_method_8_code_41 : decode prog_28_method_8_code 41 = .ok (.iload_n 0, 1) := by decide +kernel
theorem d_prog_28_method_8_code_42 : decode prog_28_method_8_code 42 = .ok (.iload_n 3, 1) := by decide +kernel
theorem d_prog_28_method_8_code_43 : decode prog_28_method_8_code 43 = .ok (.iushr, 1) := by decide +kernel
theorem d_prog_28_method_8_code_44 : decode prog_28_method_8_code 44 = .ok (.ior, 1) := by decide +kernel
theorem o_ef3 (m : MethodId) (p0 : Int32) : entryFrame m #[(.int p0), (.int (2 : Int32)), (.int (0 : Int32))] 4 = mkF m 0 #[.val (.int p0), .val (.int (2 : Int32)), .val (.int (0 : Int32)), .unset] [] := by first | (simp [entryFrame, mkF, argsToLocals, Value.category]; done) | rfl
set_option maxRecDepth 65536 in
set_option maxHeartbeats 40000000 in
theorem c_byteOf_2_0 (l : Launch) (Z : State) (a0 : Array Value) (hw : ∀ d ∈ tables_1, d.before a0 Z = true) (p0 : Int32) (h0 : Heap) :
    Does l Z (⟨"com/example/variform/variform/variant/Utf8", "byteOf", "(III)I"⟩ : MethodName) prog_28_method_8_code 4 (some .int) [] ({ frames := 0, cells := 0, slots := 0, locals := 0 } : Room) #[(.int p0), (.int (2 : Int32)), (.int (0 : Int32))] h0 (Pur h0 (.int ((192 : Int32) ||| (p0.toUInt32 >>> (6 : UInt32)).toInt32))) := by
  refine Does.of (plainFor_of_name o_pn0) ?_
  intro p e s m below meth c T0 hx hby hml hown hnm hret hlk hZ X0 e0
  have hown : s.vm.findClass "com/example/variform/variform/variant/Utf8" = some m.cls := hown
  have hml : c.maxLocals = 4 := hml
  have hret : meth.sig.returnType = some .int := hret
  refine o_entry (o_ef3 m p0) ?_
  refine o_bipush X0 hx (hb hby d_prog_28_method_8_code_0) (v := (6 : Int32)) rfl (n := 2) rfl ?_
  refine o_iloadN X0 hx (hb hby d_prog_28_method_8_code_2) (v := (2 : Int32)) rfl (n := 3) rfl ?_
  refine o_iconst X0 hx (hb hby d_prog_28_method_8_code_3) (v := (1 : Int32)) rfl (n := 4) rfl ?_
  refine o_isub X0 hx (hb hby d_prog_28_method_8_code_4) (v := (1 : Int32)) (by decide) (n := 5) rfl ?_
  refine o_iloadN X0 hx (hb hby d_prog_28_method_8_code_5) (v := (0 : Int32)) rfl (n := 6) rfl ?_
  refine o_isub X0 hx (hb hby d_prog_28_method_8_code_6) (v := (1 : Int32)) (by decide) (n := 7) rfl ?_
  refine o_imul X0 hx (hb hby d_prog_28_method_8_code_7) (v := (6 : Int32)) (by decide) (n := 8) rfl ?_
  refine o_istoreN X0 hx (hb hby d_prog_28_method_8_code_8) (Ls' := #[.val (.int p0), .val (.int (2 : Int32)), .val (.int (0 : Int32)), .val (.int (6 : Int32))]) rfl (n := 9) rfl ?_
  refine o_iloadN X0 hx (hb hby d_prog_28_method_8_code_9) (v := (0 : Int32)) rfl (n := 10) rfl ?_
  refine o_ifY X0 hx (hb hby d_prog_28_method_8_code_10) (XT.i0_le_t (by decide)) (by decide) (n := 24) (by decide) ?_
  refine o_iloadN X0 hx (hb hby d_prog_28_method_8_code_24) (v := (2 : Int32)) rfl (n := 25) rfl ?_
  refine o_iconst X0 hx (hb hby d_prog_28_method_8_code_25) (v := (1 : Int32)) rfl (n := 26) rfl ?_
  refine o_icmpY X0 hx (hb hby d_prog_28_method_8_code_26) (XT.ii_ne_t (by decide)) (by decide) (n := 33) (by decide) ?_
  refine o_ldc X0 hx hZ (v := (65280 : Int32)) hown (hw _ (List.mem_of_getElem? (i := 13) rfl)) (hb hby d_prog_28_method_8_code_33) (n := 35) rfl ?_
  refine o_iloadN X0 hx (hb hby d_prog_28_method_8_code_35) (v := (2 : Int32)) rfl (n := 36) rfl ?_
  refine o_ishr X0 hx (hb hby d_prog_28_method_8_code_36) (v := (16320 : Int32)) (by decide) (n := 37) rfl ?_
  refine o_sipush X0 hx (hb hby d_prog_28_method_8_code_37) (v := (255 : Int32)) rfl (n := 40) rfl ?_
  refine o_iand X0 hx (hb hby d_prog_28_method_8_code_40) (v := (192 : Int32)) (by decide) (n := 41) rfl ?_
  refine o_iloadN X0 hx (hb hby d_prog_28_method_8_code_41) (v := p0) rfl (n := 42) rfl ?_
  refine o_iloadN X0 hx (hb hby d_prog_28_method_8_code_42) (v := (6 : Int32)) rfl (n := 43) rfl ?_
  refine o_iushr X0 hx (hb hby d_prog_28_method_8_code_43) (v := (p0.toUInt32 >>> (6 : UInt32)).toInt32) (congrArg (fun q : UInt32 => (p0.toUInt32 >>> q).toInt32) (show ((6 : Int32) &&& 31).toUInt32 = 6 by decide)) (n := 44) rfl ?_
  refine o_ior X0 hx (hb hby d_prog_28_method_8_code_44) (v := ((192 : Int32) ||| (p0.toUInt32 >>> (6 : UInt32)).toInt32)) rfl (n := 45) rfl ?_
  exact o_ireturn X0 hx hret hlk (hb hby d_prog_28_method_8_code_45) (by decide) (by decide) e0 ⟨rfl, rfl, rfl⟩
theorem d_method_2_code_7 : decode method_2_code 7 = .ok (.iload_n 1, 1) := by decide +kernel
theorem d_method_2_code_8 : decode method_2_code 8 = .ok (.iconst 1, 1) := by decide +kernel
theorem d_method_2_code_9 : decode method_2_code 9 = .ok (.isub, 1) := by decide +kernel
theorem d_method_2_code_10 : decode method_2_code 10 = .ok (.iload_n 2, 1) := by decide +kernel
theorem d_method_2_code_11 : decode method_2_code 11 = .ok (.isub, 1) := by decide +kernel
theorem d_method_2_code_12 : decode method_2_code 12 = .ok (.istore_n 3, 1) := by decide +kernel
theorem d_method_2_code_13 : decode method_2_code 13 = .ok (.iload_n 3, 1) := by decide +kernel
theorem d_method_2_code_14 : decode method_2_code 14 = .ok (.ifCond .ne 7, 3) := by decide +kernel
theorem d_method_2_code_21 : decode method_2_code 21 = .ok (.iload_n 3, 1) := by decide +kernel
theorem d_method_2_code_22 : decode method_2_code 22 = .ok (.iconst 1, 1) := by decide +kernel
theorem d_method_2_code_23 : decode method_2_code 23 = .ok (.if_icmp .ne 8, 3) := by decide +kernel
theorem d_method_2_code_26 : decode method_2_code 26 = .ok (.bipush 64, 2) := by decide +kernel
theorem d_method_2_code_28 : decode method_2_code 28 = .ok (.goto 16, 3) := by decide +kernel
theorem d_method_2_code_44 : decode method_2_code 44 = .ok (.istore 4, 2) := by decide +kernel
theorem d_method_2_code_46 : decode method_2_code 46 = .ok (.iload_n 0, 1) := by decide +kernel
theorem d_method_2_code_47 : decode method_2_code 47 = .ok (.iload 4, 2) := by decide +kernel
theorem d_method_2_code_49 : decode method_2_code 49 = .ok (.idiv, 1) := by decide +kernel
theorem d_method_2_code_50 : decode method_2_code 50 = .ok (.istore 5, 2) := by decide +kernel
theorem d_method_2_code_52 : decode method_2_code 52 = .ok (.iload_n 2, 1) := by decide +kernel
theorem d_method_2_code_53 : decode method_2_code 53 = .ok (.ifCond .ne 36, 3) := by decide +kernel
theorem d_method_2_code_56 : decode method_2_code 56 = .ok (.iload_n 1, 1) := by decide +kernel
theorem d_method_2_code_57 : decode method_2_code 57 = .ok (.iconst 2, 1) := by decide +kernel
theorem d_method_2_code_58 : decode method_2_code 58 = .ok (.if_icmp .ne 9, 3) := by decide +kernel
theorem d_method_2_code_61 : decode method_2_code 61 = .ok (.sipush 192, 3) := by decide +kernel
theorem d_method_2_code_64 : decode method_2_code 64 = .ok (.goto 17, 3) := by decide +kernel
theorem d_method_2_code_81 : decode method_2_code 81 = .ok (.istore 6, 2) := by decide +kernel
theorem d_method_2_code_83 : decode method_2_code 83 = .ok (.iload 6, 2) := by decide +kernel
theorem d_method_2_code_85 : decode method_2_code 85 = .ok (.iload 5, 2) := by decide +kernel
theorem d_method_2_code_87 : decode method_2_code 87 = .ok (.iadd, 1) := by decide +kernel
theorem d_method_2_code_88 : decode method_2_code 88 = .ok (.ireturn, 1) := by decide +kernel
theorem o_ef4 (m : MethodId) (p0 : Int32) : entryFrame m #[(.int p0), (.int (2 : Int32)), (.int (0 : Int32))] 7 = mkF m 0 #[.val (.int p0), .val (.int (2 : Int32)), .val (.int (0 : Int32)), .unset, .unset, .unset, .unset] [] := by first | (simp [entryFrame, mkF, argsToLocals, Value.category]; done) | rfl
set_option maxRecDepth 65536 in
set_option maxHeartbeats 40000000 in
theorem c_ref_2_0 (l : Launch) (Z : State) (a0 : Array Value) (hw : ∀ d ∈ tables_1, d.before a0 Z = true) (p0 : Int32) (h0 : Heap) :
    Does l Z (⟨"com/example/variform/variform/variant/Utf8ByteOfPinLaw", "ref", "(III)I"⟩ : MethodName) method_2_code 7 (some .int) [] ({ frames := 0, cells := 0, slots := 0, locals := 0 } : Room) #[(.int p0), (.int (2 : Int32)), (.int (0 : Int32))] h0 (Pur h0 (.int ((192 : Int32) + (p0 / (64 : Int32))))) := by
  refine Does.of (plainFor_of_name o_pn1) ?_
  intro p e s m below meth c T0 hx hby hml hown hnm hret hlk hZ X0 e0
  have hown : s.vm.findClass "com/example/variform/variform/variant/Utf8ByteOfPinLaw" = some m.cls := hown
  have hml : c.maxLocals = 7 := hml
  have hret : meth.sig.returnType = some .int := hret
  refine o_entry (o_ef4 m p0) ?_
  refine o_iloadN X0 hx (hb hby d_method_2_code_0) (v := (2 : Int32)) rfl (n := 1) rfl ?_
  refine o_iconst X0 hx (hb hby d_method_2_code_1) (v := (1 : Int32)) rfl (n := 2) rfl ?_
  refine o_icmpY X0 hx (hb hby d_method_2_code_2) (XT.ii_ne_t (by decide)) (by decide) (n := 7) (by decide) ?_
  refine o_iloadN X0 hx (hb hby d_method_2_code_7) (v := (2 : Int32)) rfl (n := 8) rfl ?_
  refine o_iconst X0 hx (hb hby d_method_2_code_8) (v := (1 : Int32)) rfl (n := 9) rfl ?_
  refine o_isub X0 hx (hb hby d_method_2_code_9) (v := (1 : Int32)) (by decide) (n := 10) rfl ?_
  refine o_iloadN X0 hx (hb hby d_method_2_code_10) (v := (0 : Int32)) rfl (n := 11) rfl ?_
  refine o_isub X0 hx (hb hby d_method_2_code_11) (v := (1 : Int32)) (by decide) (n := 12) rfl ?_
  refine o_istoreN X0 hx (hb hby d_method_2_code_12) (Ls' := #[.val (.int p0), .val (.int (2 : Int32)), .val (.int (0 : Int32)), .val (.int (1 : Int32)), .unset, .unset, .unset]) rfl (n := 13) rfl ?_
  refine o_iloadN X0 hx (hb hby d_method_2_code_13) (v := (1 : Int32)) rfl (n := 14) rfl ?_
  refine o_ifY X0 hx (hb hby d_method_2_code_14) (XT.i0_ne_t (by decide)) (by decide) (n := 21) (by decide) ?_
  refine o_iloadN X0 hx (hb hby d_method_2_code_21) (v := (1 : Int32)) rfl (n := 22) rfl ?_
  refine o_iconst X0 hx (hb hby d_method_2_code_22) (v := (1 : Int32)) rfl (n := 23) rfl ?_
  refine o_icmpN X0 hx (hb hby d_method_2_code_23) (XT.ii_ne_f (by decide)) (n := 26) rfl ?_
  refine o_bipush X0 hx (hb hby d_method_2_code_26) (v := (64 : Int32)) rfl (n := 28) rfl ?_
  refine o_goto X0 hx (hb hby d_method_2_code_28) (by decide) (n := 44) (by decide) ?_
  refine o_istore X0 hx (hb hby d_method_2_code_44) (Ls' := #[.val (.int p0), .val (.int (2 : Int32)), .val (.int (0 : Int32)), .val (.int (1 : Int32)), .val (.int (64 : Int32)), .unset, .unset]) rfl (n := 46) rfl ?_
  refine o_iloadN X0 hx (hb hby d_method_2_code_46) (v := p0) rfl (n := 47) rfl ?_
  refine o_iload X0 hx (hb hby d_method_2_code_47) (v := (64 : Int32)) rfl (n := 49) rfl ?_
  refine o_idiv X0 hx (hb hby d_method_2_code_49) (by decide) (v := (p0 / (64 : Int32))) rfl (n := 50) rfl ?_
  refine o_istore X0 hx (hb hby d_method_2_code_50) (Ls' := #[.val (.int p0), .val (.int (2 : Int32)), .val (.int (0 : Int32)), .val (.int (1 : Int32)), .val (.int (64 : Int32)), .val (.int (p0 / (64 : Int32))), .unset]) rfl (n := 52) rfl ?_
  refine o_iloadN X0 hx (hb hby d_method_2_code_52) (v := (0 : Int32)) rfl (n := 53) rfl ?_
  refine o_ifN X0 hx (hb hby d_method_2_code_53) (XT.i0_ne_f (by decide)) (n := 56) rfl ?_
  refine o_iloadN X0 hx (hb hby d_method_2_code_56) (v := (2 : Int32)) rfl (n := 57) rfl ?_
  refine o_iconst X0 hx (hb hby d_method_2_code_57) (v := (2 : Int32)) rfl (n := 58) rfl ?_
  refine o_icmpN X0 hx (hb hby d_method_2_code_58) (XT.ii_ne_f (by decide)) (n := 61) rfl ?_
  refine o_sipush X0 hx (hb hby d_method_2_code_61) (v := (192 : Int32)) rfl (n := 64) rfl ?_
  refine o_goto X0 hx (hb hby d_method_2_code_64) (by decide) (n := 81) (by decide) ?_
  refine o_istore X0 hx (hb hby d_method_2_code_81) (Ls' := #[.val (.int p0), .val (.int (2 : Int32)), .val (.int (0 : Int32)), .val (.int (1 : Int32)), .val (.int (64 : Int32)), .val (.int (p0 / (64 : Int32))), .val (.int (192 : Int32))]) rfl (n := 83) rfl ?_
  refine o_iload X0 hx (hb hby d_method_2_code_83) (v := (192 : Int32)) rfl (n := 85) rfl ?_
  refine o_iload X0 hx (hb hby d_method_2_code_85) (v := (p0 / (64 : Int32))) rfl (n := 87) rfl ?_
  refine o_iadd X0 hx (hb hby d_method_2_code_87) (v := ((192 : Int32) + (p0 / (64 : Int32)))) rfl (n := 88) rfl ?_
  exact o_ireturn X0 hx hret hlk (hb hby d_method_2_code_88) (by decide) (by decide) e0 ⟨rfl, rfl, rfl⟩
theorem d_prog_28_method_8_code_13 : decode prog_28_method_8_code 13 = .ok (.sipush 128, 3) := by decide +kernel
theorem d_prog_28_method_8_code_16 : decode prog_28_method_8_code 16 = .ok (.iload_n 0, 1) := by decide +kernel
theorem d_prog_28_method_8_code_17 : decode prog_28_method_8_code 17 = .ok (.iload_n 3, 1) := by decide +kernel
theorem d_prog_28_method_8_code_18 : decode prog_28_method_8_code 18 = .ok (.iushr, 1) := by decide +kernel
theorem d_prog_28_method_8_code_19 : decode prog_28_method_8_code 19 = .ok (.bipush 63, 2) := by decide +kernel
theorem d_prog_28_method_8_code_21 : decode prog_28_method_8_code 21 = .ok (.iand, 1) := by decide +kernel
theorem d_prog_28_method_8_code_22 : decode prog_28_method_8_code 22 = .ok (.ior, 1) := by decide +kernel
theorem d_prog_28_method_8_code_23 : decode prog_28_method_8_code 23 = .ok (.ireturn, 1) := by decide +kernel
theorem o_ef5 (m : MethodId) (p0 : Int32) : entryFrame m #[(.int p0), (.int (2 : Int32)), (.int (1 : Int32))] 4 = mkF m 0 #[.val (.int p0), .val (.int (2 : Int32)), .val (.int (1 : Int32)), .unset] [] := by first | (simp [entryFrame, mkF, argsToLocals, Value.category]; done) | rfl
set_option maxRecDepth 65536 in
set_option maxHeartbeats 40000000 in
theorem c_byteOf_2_1 (l : Launch) (Z : State) (a0 : Array Value) (hw : ∀ d ∈ tables_1, d.before a0 Z = true) (p0 : Int32) (h0 : Heap) :
    Does l Z (⟨"com/example/variform/variform/variant/Utf8", "byteOf", "(III)I"⟩ : MethodName) prog_28_method_8_code 4 (some .int) [] ({ frames := 0, cells := 0, slots := 0, locals := 0 } : Room) #[(.int p0), (.int (2 : Int32)), (.int (1 : Int32))] h0 (Pur h0 (.int ((128 : Int32) ||| ((p0.toUInt32 >>> (0 : UInt32)).toInt32 &&& (63 : Int32))))) := by
  refine Does.of (plainFor_of_name o_pn0) ?_
  intro p e s m below meth c T0 hx hby hml hown hnm hret hlk hZ X0 e0
  have hown : s.vm.findClass "com/example/variform/variform/variant/Utf8" = some m.cls := hown
  have hml : c.maxLocals = 4 := hml
  have hret : meth.sig.returnType = some .int := hret
  refine o_entry (o_ef5 m p0) ?_
  refine o_bipush X0 hx (hb hby d_prog_28_method_8_code_0) (v := (6 : Int32)) rfl (n := 2) rfl ?_
  refine o_iloadN X0 hx (hb hby d_prog_28_method_8_code_2) (v := (2 : Int32)) rfl (n := 3) rfl ?_
  refine o_iconst X0 hx (hb hby d_prog_28_method_8_code_3) (v := (1 : Int32)) rfl (n := 4) rfl ?_
  refine o_isub X0 hx (hb hby d_prog_28_method_8_code_4) (v := (1 : Int32)) (by decide) (n := 5) rfl ?_
  refine o_iloadN X0 hx (hb hby d_prog_28_method_8_code_5) (v := (1 : Int32)) rfl (n := 6) rfl ?_
  refine o_isub X0 hx (hb hby d_prog_28_method_8_code_6) (v := (0 : Int32)) (by decide) (n := 7) rfl ?_
  refine o_imul X0 hx (hb hby d_prog_28_method_8_code_7) (v := (0 : Int32)) (by decide) (n := 8) rfl ?_
  refine o_istoreN X0 hx (hb hby d_prog_28_method_8_code_8) (Ls' := #[.val (.int p0), .val (.int (2 : Int32)), .val (.int (1 : Int32)), .val (.int (0 : Int32))]) rfl (n := 9) rfl ?_
  refine o_iloadN X0 hx (hb hby d_prog_28_method_8_code_9) (v := (1 : Int32)) rfl (n := 10) rfl ?_
  refine o_ifN X0 hx (hb hby d_prog_28_method_8_code_10) (XT.i0_le_f (by decide)) (n := 13) rfl ?_
  refine o_sipush X0 hx (hb hby d_prog_28_method_8_code_13) (v := (128 : Int32)) rfl (n := 16) rfl ?_
  refine o_iloadN X0 hx (hb hby d_prog_28_method_8_code_16) (v := p0) rfl (n := 17) rfl ?_
  refine o_iloadN X0 hx (hb hby d_prog_28_method_8_code_17) (v := (0 : Int32)) rfl (n := 18) rfl ?_
  refine o_iushr X0 hx (hb hby d_prog_28_method_8_code_18) (v := (p0.toUInt32 >>> (0 : UInt32)).toInt32) (congrArg (fun q : UInt32 => (p0.toUInt32 >>> q).toInt32) (show ((0 : Int32) &&& 31).toUInt32 = 0 by decide)) (n := 19) rfl ?_
  refine o_bipush X0 hx (hb hby d_prog_28_method_8_code_19) (v := (63 : Int32)) rfl (n := 21) rfl ?_
  refine o_iand X0 hx (hb hby d_prog_28_method_8_code_21) (v := ((p0.toUInt32 >>> (0 : UInt32)).toInt32 &&& (63 : Int32))) rfl (n := 22) rfl ?_
  refine o_ior X0 hx (hb hby d_prog_28_method_8_code_22) (v := ((128 : Int32) ||| ((p0.toUInt32 >>> (0 : UInt32)).toInt32 &&& (63 : Int32)))) rfl (n := 23) rfl ?_
  exact o_ireturn X0 hx hret hlk (hb hby d_prog_28_method_8_code_23) (by decide) (by decide) e0 ⟨rfl, rfl, rfl⟩
theorem d_method_2_code_17 : decode method_2_code 17 = .ok (.iconst 1, 1) := by decide +kernel
theorem d_method_2_code_18 : decode method_2_code 18 = .ok (.goto 26, 3) := by decide +kernel
theorem d_method_2_code_89 : decode method_2_code 89 = .ok (.sipush 128, 3) := by decide +kernel
theorem d_method_2_code_92 : decode method_2_code 92 = .ok (.iload 5, 2) := by decide +kernel
theorem d_method_2_code_94 : decode method_2_code 94 = .ok (.bipush 64, 2) := by decide +kernel
theorem d_method_2_code_96 : decode method_2_code 96 = .ok (.irem, 1) := by decide +kernel
theorem d_method_2_code_97 : decode method_2_code 97 = .ok (.iadd, 1) := by decide +kernel
theorem d_method_2_code_98 : decode method_2_code 98 = .ok (.ireturn, 1) := by decide +kernel
theorem o_ef6 (m : MethodId) (p0 : Int32) : entryFrame m #[(.int p0), (.int (2 : Int32)), (.int (1 : Int32))] 7 = mkF m 0 #[.val (.int p0), .val (.int (2 : Int32)), .val (.int (1 : Int32)), .unset, .unset, .unset, .unset] [] := by first | (simp [entryFrame, mkF, argsToLocals, Value.category]; done) | rfl
set_option maxRecDepth 65536 in
set_option maxHeartbeats 40000000 in
theorem c_ref_2_1 (l : Launch) (Z : State) (a0 : Array Value) (hw : ∀ d ∈ tables_1, d.before a0 Z = true) (p0 : Int32) (h0 : Heap) :
    Does l Z (⟨"com/example/variform/variform/variant/Utf8ByteOfPinLaw", "ref", "(III)I"⟩ : MethodName) method_2_code 7 (some .int) [] ({ frames := 0, cells := 0, slots := 0, locals := 0 } : Room) #[(.int p0), (.int (2 : Int32)), (.int (1 : Int32))] h0 (Pur h0 (.int ((128 : Int32) + ((p0 / (1 : Int32)) % (64 : Int32))))) := by
  refine Does.of (plainFor_of_name o_pn1) ?_
  intro p e s m below meth c T0 hx hby hml hown hnm hret hlk hZ X0 e0
  have hown : s.vm.findClass "com/example/variform/variform/variant/Utf8ByteOfPinLaw" = some m.cls := hown
  have hml : c.maxLocals = 7 := hml
  have hret : meth.sig.returnType = some .int := hret
  refine o_entry (o_ef6 m p0) ?_
  refine o_iloadN X0 hx (hb hby d_method_2_code_0) (v := (2 : Int32)) rfl (n := 1) rfl ?_
  refine o_iconst X0 hx (hb hby d_method_2_code_1) (v := (1 : Int32)) rfl (n := 2) rfl ?_
  refine o_icmpY X0 hx (hb hby d_method_2_code_2) (XT.ii_ne_t (by decide)) (by decide) (n := 7) (by decide) ?_
  refine o_iloadN X0 hx (hb hby d_method_2_code_7) (v := (2 : Int32)) rfl (n := 8) rfl ?_
  refine o_iconst X0 hx (hb hby d_method_2_code_8) (v := (1 : Int32)) rfl (n := 9) rfl ?_
  refine o_isub X0 hx (hb hby d_method_2_code_9) (v := (1 : Int32)) (by decide) (n := 10) rfl ?_
  refine o_iloadN X0 hx (hb hby d_method_2_code_10) (v := (1 : Int32)) rfl (n := 11) rfl ?_
  refine o_isub X0 hx (hb hby d_method_2_code_11) (v := (0 : Int32)) (by decide) (n := 12) rfl ?_
  refine o_istoreN X0 hx (hb hby d_method_2_code_12) (Ls' := #[.val (.int p0), .val (.int (2 : Int32)), .val (.int (1 : Int32)), .val (.int (0 : Int32)), .unset, .unset, .unset]) rfl (n := 13) rfl ?_
  refine o_iloadN X0 hx (hb hby d_method_2_code_13) (v := (0 : Int32)) rfl (n := 14) rfl ?_
  refine o_ifN X0 hx (hb hby d_method_2_code_14) (XT.i0_ne_f (by decide)) (n := 17) rfl ?_
  refine o_iconst X0 hx (hb hby d_method_2_code_17) (v := (1 : Int32)) rfl (n := 18) rfl ?_
  refine o_goto X0 hx (hb hby d_method_2_code_18) (by decide) (n := 44) (by decide) ?_
  refine o_istore X0 hx (hb hby d_method_2_code_44) (Ls' := #[.val (.int p0), .val (.int (2 : Int32)), .val (.int (1 : Int32)), .val (.int (0 : Int32)), .val (.int (1 : Int32)), .unset, .unset]) rfl (n := 46) rfl ?_
  refine o_iloadN X0 hx (hb hby d_method_2_code_46) (v := p0) rfl (n := 47) rfl ?_
  refine o_iload X0 hx (hb hby d_method_2_code_47) (v := (1 : Int32)) rfl (n := 49) rfl ?_
  refine o_idiv X0 hx (hb hby d_method_2_code_49) (by decide) (v := (p0 / (1 : Int32))) rfl (n := 50) rfl ?_
  refine o_istore X0 hx (hb hby d_method_2_code_50) (Ls' := #[.val (.int p0), .val (.int (2 : Int32)), .val (.int (1 : Int32)), .val (.int (0 : Int32)), .val (.int (1 : Int32)), .val (.int (p0 / (1 : Int32))), .unset]) rfl (n := 52) rfl ?_
  refine o_iloadN X0 hx (hb hby d_method_2_code_52) (v := (1 : Int32)) rfl (n := 53) rfl ?_
  refine o_ifY X0 hx (hb hby d_method_2_code_53) (XT.i0_ne_t (by decide)) (by decide) (n := 89) (by decide) ?_
  refine o_sipush X0 hx (hb hby d_method_2_code_89) (v := (128 : Int32)) rfl (n := 92) rfl ?_
  refine o_iload X0 hx (hb hby d_method_2_code_92) (v := (p0 / (1 : Int32))) rfl (n := 94) rfl ?_
  refine o_bipush X0 hx (hb hby d_method_2_code_94) (v := (64 : Int32)) rfl (n := 96) rfl ?_
  refine o_irem X0 hx (hb hby d_method_2_code_96) (by decide) (v := ((p0 / (1 : Int32)) % (64 : Int32))) rfl (n := 97) rfl ?_
  refine o_iadd X0 hx (hb hby d_method_2_code_97) (v := ((128 : Int32) + ((p0 / (1 : Int32)) % (64 : Int32)))) rfl (n := 98) rfl ?_
  exact o_ireturn X0 hx hret hlk (hb hby d_method_2_code_98) (by decide) (by decide) e0 ⟨rfl, rfl, rfl⟩
theorem o_ef7 (m : MethodId) (p0 : Int32) : entryFrame m #[(.int p0), (.int (3 : Int32)), (.int (0 : Int32))] 4 = mkF m 0 #[.val (.int p0), .val (.int (3 : Int32)), .val (.int (0 : Int32)), .unset] [] := by first | (simp [entryFrame, mkF, argsToLocals, Value.category]; done) | rfl
set_option maxRecDepth 65536 in
set_option maxHeartbeats 40000000 in
theorem c_byteOf_3_0 (l : Launch) (Z : State) (a0 : Array Value) (hw : ∀ d ∈ tables_1, d.before a0 Z = true) (p0 : Int32) (h0 : Heap) :
    Does l Z (⟨"com/example/variform/variform/variant/Utf8", "byteOf", "(III)I"⟩ : MethodName) prog_28_method_8_code 4 (some .int) [] ({ frames := 0, cells := 0, slots := 0, locals := 0 } : Room) #[(.int p0), (.int (3 : Int32)), (.int (0 : Int32))] h0 (Pur h0 (.int ((224 : Int32) ||| (p0.toUInt32 >>> (12 : UInt32)).toInt32))) := by
  refine Does.of (plainFor_of_name o_pn0) ?_
  intro p e s m below meth c T0 hx hby hml hown hnm hret hlk hZ X0 e0
  have hown : s.vm.findClass "com/example/variform/variform/variant/Utf8" = some m.cls := hown
  have hml : c.maxLocals = 4 := hml
  have hret : meth.sig.returnType = some .int := hret
  refine o_entry (o_ef7 m p0) ?_
  refine o_bipush X0 hx (hb hby d_prog_28_method_8_code_0) (v := (6 : Int32)) rfl (n := 2) rfl ?_
  refine o_iloadN X0 hx (hb hby d_prog_28_method_8_code_2) (v := (3 : Int32)) rfl (n := 3) rfl ?_
  refine o_iconst X0 hx (hb hby d_prog_28_method_8_code_3) (v := (1 : Int32)) rfl (n := 4) rfl ?_
  refine o_isub X0 hx (hb hby d_prog_28_method_8_code_4) (v := (2 : Int32)) (by decide) (n := 5) rfl ?_
  refine o_iloadN X0 hx (hb hby d_prog_28_method_8_code_5) (v := (0 : Int32)) rfl (n := 6) rfl ?_
  refine o_isub X0 hx (hb hby d_prog_28_method_8_code_6) (v := (2 : Int32)) (by decide) (n := 7) rfl ?_
  refine o_imul X0 hx (hb hby d_prog_28_method_8_code_7) (v := (12 : Int32)) (by decide) (n := 8) rfl ?_
  refine o_istoreN X0 hx (hb hby d_prog_28_method_8_code_8) (Ls' := #[.val (.int p0), .val (.int (3 : Int32)), .val (.int (0 : Int32)), .val (.int (12 : Int32))]) rfl (n := 9) rfl ?_
  refine o_iloadN X0 hx (hb hby d_prog_28_method_8_code_9) (v := (0 : Int32)) rfl (n := 10) rfl ?_
  refine o_ifY X0 hx (hb hby d_prog_28_method_8_code_10) (XT.i0_le_t (by decide)) (by decide) (n := 24) (by decide) ?_
  refine o_iloadN X0 hx (hb hby d_prog_28_method_8_code_24) (v := (3 : Int32)) rfl (n := 25) rfl ?_
  refine o_iconst X0 hx (hb hby d_prog_28_method_8_code_25) (v := (1 : Int32)) rfl (n := 26) rfl ?_
  refine o_icmpY X0 hx (hb hby d_prog_28_method_8_code_26) (XT.ii_ne_t (by decide)) (by decide) (n := 33) (by decide) ?_
  refine o_ldc X0 hx hZ (v := (65280 : Int32)) hown (hw _ (List.mem_of_getElem? (i := 13) rfl)) (hb hby d_prog_28_method_8_code_33) (n := 35) rfl ?_
  refine o_iloadN X0 hx (hb hby d_prog_28_method_8_code_35) (v := (3 : Int32)) rfl (n := 36) rfl ?_
  refine o_ishr X0 hx (hb hby d_prog_28_method_8_code_36) (v := (8160 : Int32)) (by decide) (n := 37) rfl ?_
  refine o_sipush X0 hx (hb hby d_prog_28_method_8_code_37) (v := (255 : Int32)) rfl (n := 40) rfl ?_
  refine o_iand X0 hx (hb hby d_prog_28_method_8_code_40) (v := (224 : Int32)) (by decide) (n := 41) rfl ?_
  refine o_iloadN X0 hx (hb hby d_prog_28_method_8_code_41) (v := p0) rfl (n := 42) rfl ?_
  refine o_iloadN X0 hx (hb hby d_prog_28_method_8_code_42) (v := (12 : Int32)) rfl (n := 43) rfl ?_
  refine o_iushr X0 hx (hb hby d_prog_28_method_8_code_43) (v := (p0.toUInt32 >>> (12 : UInt32)).toInt32) (congrArg (fun q : UInt32 => (p0.toUInt32 >>> q).toInt32) (show ((12 : Int32) &&& 31).toUInt32 = 12 by decide)) (n := 44) rfl ?_
  refine o_ior X0 hx (hb hby d_prog_28_method_8_code_44) (v := ((224 : Int32) ||| (p0.toUInt32 >>> (12 : UInt32)).toInt32)) rfl (n := 45) rfl ?_
  exact o_ireturn X0 hx hret hlk (hb hby d_prog_28_method_8_code_45) (by decide) (by decide) e0 ⟨rfl, rfl, rfl⟩
theorem d_method_2_code_31 : decode method_2_code 31 = .ok (.iload_n 3, 1) := by decide +kernel
theorem d_method_2_code_32 : decode method_2_code 32 = .ok (.iconst 2, 1) := by decide +kernel
theorem d_method_2_code_33 : decode method_2_code 33 = .ok (.if_icmp .ne 9, 3) := by decide +kernel
theorem d_method_2_code_36 : decode method_2_code 36 = .ok (.sipush 4096, 3) := by decide +kernel
theorem d_method_2_code_39 : decode method_2_code 39 = .ok (.goto 5, 3) := by decide +kernel
theorem d_method_2_code_67 : decode method_2_code 67 = .ok (.iload_n 1, 1) := by decide +kernel
theorem d_method_2_code_68 : decode method_2_code 68 = .ok (.iconst 3, 1) := by decide +kernel
theorem d_method_2_code_69 : decode method_2_code 69 = .ok (.if_icmp .ne 9, 3) := by decide +kernel
theorem d_method_2_code_72 : decode method_2_code 72 = .ok (.sipush 224, 3) := by decide +kernel
theorem d_method_2_code_75 : decode method_2_code 75 = .ok (.goto 6, 3) := by decide +kernel
theorem o_ef8 (m : MethodId) (p0 : Int32) : entryFrame m #[(.int p0), (.int (3 : Int32)), (.int (0 : Int32))] 7 = mkF m 0 #[.val (.int p0), .val (.int (3 : Int32)), .val (.int (0 : Int32)), .unset, .unset, .unset, .unset] [] := by first | (simp [entryFrame, mkF, argsToLocals, Value.category]; done) | rfl
set_option maxRecDepth 65536 in
set_option maxHeartbeats 40000000 in
theorem c_ref_3_0 (l : Launch) (Z : State) (a0 : Array Value) (hw : ∀ d ∈ tables_1, d.before a0 Z = true) (p0 : Int32) (h0 : Heap) :
    Does l Z (⟨"com/example/variform/variform/variant/Utf8ByteOfPinLaw", "ref", "(III)I"⟩ : MethodName) method_2_code 7 (some .int) [] ({ frames := 0, cells := 0, slots := 0, locals := 0 } : Room) #[(.int p0), (.int (3 : Int32)), (.int (0 : Int32))] h0 (Pur h0 (.int ((224 : Int32) + (p0 / (4096 : Int32))))) := by
  refine Does.of (plainFor_of_name o_pn1) ?_
  intro p e s m below meth c T0 hx hby hml hown hnm hret hlk hZ X0 e0
  have hown : s.vm.findClass "com/example/variform/variform/variant/Utf8ByteOfPinLaw" = some m.cls := hown
  have hml : c.maxLocals = 7 := hml
  have hret : meth.sig.returnType = some .int := hret
  refine o_entry (o_ef8 m p0) ?_
  refine o_iloadN X0 hx (hb hby d_method_2_code_0) (v := (3 : Int32)) rfl (n := 1) rfl ?_
  refine o_iconst X0 hx (hb hby d_method_2_code_1) (v := (1 : Int32)) rfl (n := 2) rfl ?_
  refine o_icmpY X0 hx (hb hby d_method_2_code_2) (XT.ii_ne_t (by decide)) (by decide) (n := 7) (by decide) ?_
  refine o_iloadN X0 hx (hb hby d_method_2_code_7) (v := (3 : Int32)) rfl (n := 8) rfl ?_
  refine o_iconst X0 hx (hb hby d_method_2_code_8) (v := (1 : Int32)) rfl (n := 9) rfl ?_
  refine o_isub X0 hx (hb hby d_method_2_code_9) (v := (2 : Int32)) (by decide) (n := 10) rfl ?_
  refine o_iloadN X0 hx (hb hby d_method_2_code_10) (v := (0 : Int32)) rfl (n := 11) rfl ?_
  refine o_isub X0 hx (hb hby d_method_2_code_11) (v := (2 : Int32)) (by decide) (n := 12) rfl ?_
  refine o_istoreN X0 hx (hb hby d_method_2_code_12) (Ls' := #[.val (.int p0), .val (.int (3 : Int32)), .val (.int (0 : Int32)), .val (.int (2 : Int32)), .unset, .unset, .unset]) rfl (n := 13) rfl ?_
  refine o_iloadN X0 hx (hb hby d_method_2_code_13) (v := (2 : Int32)) rfl (n := 14) rfl ?_
  refine o_ifY X0 hx (hb hby d_method_2_code_14) (XT.i0_ne_t (by decide)) (by decide) (n := 21) (by decide) ?_
  refine o_iloadN X0 hx (hb hby d_method_2_code_21) (v := (2 : Int32)) rfl (n := 22) rfl ?_
  refine o_iconst X0 hx (hb hby d_method_2_code_22) (v := (1 : Int32)) rfl (n := 23) rfl ?_
  refine o_icmpY X0 hx (hb hby d_method_2_code_23) (XT.ii_ne_t (by decide)) (by decide) (n := 31) (by decide) ?_
  refine o_iloadN X0 hx (hb hby d_method_2_code_31) (v := (2 : Int32)) rfl (n := 32) rfl ?_
  refine o_iconst X0 hx (hb hby d_method_2_code_32) (v := (2 : Int32)) rfl (n := 33) rfl ?_
  refine o_icmpN X0 hx (hb hby d_method_2_code_33) (XT.ii_ne_f (by decide)) (n := 36) rfl ?_
  refine o_sipush X0 hx (hb hby d_method_2_code_36) (v := (4096 : Int32)) rfl (n := 39) rfl ?_
  refine o_goto X0 hx (hb hby d_method_2_code_39) (by decide) (n := 44) (by decide) ?_
  refine o_istore X0 hx (hb hby d_method_2_code_44) (Ls' := #[.val (.int p0), .val (.int (3 : Int32)), .val (.int (0 : Int32)), .val (.int (2 : Int32)), .val (.int (4096 : Int32)), .unset, .unset]) rfl (n := 46) rfl ?_
  refine o_iloadN X0 hx (hb hby d_method_2_code_46) (v := p0) rfl (n := 47) rfl ?_
  refine o_iload X0 hx (hb hby d_method_2_code_47) (v := (4096 : Int32)) rfl (n := 49) rfl ?_
  refine o_idiv X0 hx (hb hby d_method_2_code_49) (by decide) (v := (p0 / (4096 : Int32))) rfl (n := 50) rfl ?_
  refine o_istore X0 hx (hb hby d_method_2_code_50) (Ls' := #[.val (.int p0), .val (.int (3 : Int32)), .val (.int (0 : Int32)), .val (.int (2 : Int32)), .val (.int (4096 : Int32)), .val (.int (p0 / (4096 : Int32))), .unset]) rfl (n := 52) rfl ?_
  refine o_iloadN X0 hx (hb hby d_method_2_code_52) (v := (0 : Int32)) rfl (n := 53) rfl ?_
  refine o_ifN X0 hx (hb hby d_method_2_code_53) (XT.i0_ne_f (by decide)) (n := 56) rfl ?_
  refine o_iloadN X0 hx (hb hby d_method_2_code_56) (v := (3 : Int32)) rfl (n := 57) rfl ?_
  refine o_iconst X0 hx (hb hby d_method_2_code_57) (v := (2 : Int32)) rfl (n := 58) rfl ?_
  refine o_icmpY X0 hx (hb hby d_method_2_code_58) (XT.ii_ne_t (by decide)) (by decide) (n := 67) (by decide) ?_
  refine o_iloadN X0 hx (hb hby d_method_2_code_67) (v := (3 : Int32)) rfl (n := 68) rfl ?_
  refine o_iconst X0 hx (hb hby d_method_2_code_68) (v := (3 : Int32)) rfl (n := 69) rfl ?_
  refine o_icmpN X0 hx (hb hby d_method_2_code_69) (XT.ii_ne_f (by decide)) (n := 72) rfl ?_
  refine o_sipush X0 hx (hb hby d_method_2_code_72) (v := (224 : Int32)) rfl (n := 75) rfl ?_
  refine o_goto X0 hx (hb hby d_method_2_code_75) (by decide) (n := 81) (by decide) ?_
  refine o_istore X0 hx (hb hby d_method_2_code_81) (Ls' := #[.val (.int p0), .val (.int (3 : Int32)), .val (.int (0 : Int32)), .val (.int (2 : Int32)), .val (.int (4096 : Int32)), .val (.int (p0 / (4096 : Int32))), .val (.int (224 : Int32))]) rfl (n := 83) rfl ?_
  refine o_iload X0 hx (hb hby d_method_2_code_83) (v := (224 : Int32)) rfl (n := 85) rfl ?_
  refine o_iload X0 hx (hb hby d_method_2_code_85) (v := (p0 / (4096 : Int32))) rfl (n := 87) rfl ?_
  refine o_iadd X0 hx (hb hby d_method_2_code_87) (v := ((224 : Int32) + (p0 / (4096 : Int32)))) rfl (n := 88) rfl ?_
  exact o_ireturn X0 hx hret hlk (hb hby d_method_2_code_88) (by decide) (by decide) e0 ⟨rfl, rfl, rfl⟩
theorem o_ef9 (m : MethodId) (p0 : Int32) : entryFrame m #[(.int p0), (.int (3 : Int32)), (.int (1 : Int32))] 4 = mkF m 0 #[.val (.int p0), .val (.int (3 : Int32)), .val (.int (1 : Int32)), .unset] [] := by first | (simp [entryFrame, mkF, argsToLocals, Value.category]; done) | rfl
set_option maxRecDepth 65536 in
set_option maxHeartbeats 40000000 in
theorem c_byteOf_3_1 (l : Launch) (Z : State) (a0 : Array Value) (hw : ∀ d ∈ tables_1, d.before a0 Z = true) (p0 : Int32) (h0 : Heap) :
    Does l Z (⟨"com/example/variform/variform/variant/Utf8", "byteOf", "(III)I"⟩ : MethodName) prog_28_method_8_code 4 (some .int) [] ({ frames := 0, cells := 0, slots := 0, locals := 0 } : Room) #[(.int p0), (.int (3 : Int32)), (.int (1 : Int32))] h0 (Pur h0 (.int ((128 : Int32) ||| ((p0.toUInt32 >>> (6 : UInt32)).toInt32 &&& (63 : Int32))))) := by
  refine Does.of (plainFor_of_name o_pn0) ?_
  intro p e s m below meth c T0 hx hby hml hown hnm hret hlk hZ X0 e0
  have hown : s.vm.findClass "com/example/variform/variform/variant/Utf8" = some m.cls := hown
  have hml : c.maxLocals = 4 := hml
  have hret : meth.sig.returnType = some .int := hret
  refine o_entry (o_ef9 m p0) ?_
  refine o_bipush X0 hx (hb hby d_prog_28_method_8_code_0) (v := (6 : Int32)) rfl (n := 2) rfl ?_
  refine o_iloadN X0 hx (hb hby d_prog_28_method_8_code_2) (v := (3 : Int32)) rfl (n := 3) rfl ?_
  refine o_iconst X0 hx (hb hby d_prog_28_method_8_code_3) (v := (1 : Int32)) rfl (n := 4) rfl ?_
  refine o_isub X0 hx (hb hby d_prog_28_method_8_code_4) (v := (2 : Int32)) (by decide) (n := 5) rfl ?_
  refine o_iloadN X0 hx (hb hby d_prog_28_method_8_code_5) (v := (1 : Int32)) rfl (n := 6) rfl ?_
  refine o_isub X0 hx (hb hby d_prog_28_method_8_code_6) (v := (1 : Int32)) (by decide) (n := 7) rfl ?_
  refine o_imul X0 hx (hb hby d_prog_28_method_8_code_7) (v := (6 : Int32)) (by decide) (n := 8) rfl ?_
  refine o_istoreN X0 hx (hb hby d_prog_28_method_8_code_8) (Ls' := #[.val (.int p0), .val (.int (3 : Int32)), .val (.int (1 : Int32)), .val (.int (6 : Int32))]) rfl (n := 9) rfl ?_
  refine o_iloadN X0 hx (hb hby d_prog_28_method_8_code_9) (v := (1 : Int32)) rfl (n := 10) rfl ?_
  refine o_ifN X0 hx (hb hby d_prog_28_method_8_code_10) (XT.i0_le_f (by decide)) (n := 13) rfl ?_
  refine o_sipush X0 hx (hb hby d_prog_28_method_8_code_13) (v := (128 : Int32)) rfl (n := 16) rfl ?_
  refine o_iloadN X0 hx (hb hby d_prog_28_method_8_code_16) (v := p0) rfl (n := 17) rfl ?_
  refine o_iloadN X0 hx (hb hby d_prog_28_method_8_code_17) (v := (6 : Int32)) rfl (n := 18) rfl ?_
  refine o_iushr X0 hx (hb hby d_prog_28_method_8_code_18) (v := (p0.toUInt32 >>> (6 : UInt32)).toInt32) (congrArg (fun q : UInt32 => (p0.toUInt32 >>> q).toInt32) (show ((6 : Int32) &&& 31).toUInt32 = 6 by decide)) (n := 19) rfl ?_
  refine o_bipush X0 hx (hb hby d_prog_28_method_8_code_19) (v := (63 : Int32)) rfl (n := 21) rfl ?_
  refine o_iand X0 hx (hb hby d_prog_28_method_8_code_21) (v := ((p0.toUInt32 >>> (6 : UInt32)).toInt32 &&& (63 : Int32))) rfl (n := 22) rfl ?_
  refine o_ior X0 hx (hb hby d_prog_28_method_8_code_22) (v := ((128 : Int32) ||| ((p0.toUInt32 >>> (6 : UInt32)).toInt32 &&& (63 : Int32)))) rfl (n := 23) rfl ?_
  exact o_ireturn X0 hx hret hlk (hb hby d_prog_28_method_8_code_23) (by decide) (by decide) e0 ⟨rfl, rfl, rfl⟩
theorem o_ef10 (m : MethodId) (p0 : Int32) : entryFrame m #[(.int p0), (.int (3 : Int32)), (.int (1 : Int32))] 7 = mkF m 0 #[.val (.int p0), .val (.int (3 : Int32)), .val (.int (1 : Int32)), .unset, .unset, .unset, .unset] [] := by first | (simp [entryFrame, mkF, argsToLocals, Value.category]; done) | rfl
set_option maxRecDepth 65536 in
set_option maxHeartbeats 40000000 in
theorem c_ref_3_1 (l : Launch) (Z : State) (a0 : Array Value) (hw : ∀ d ∈ tables_1, d.before a0 Z = true) (p0 : Int32) (h0 : Heap) :
    Does l Z (⟨"com/example/variform/variform/variant/Utf8ByteOfPinLaw", "ref", "(III)I"⟩ : MethodName) method_2_code 7 (some .int) [] ({ frames := 0, cells := 0, slots := 0, locals := 0 } : Room) #[(.int p0), (.int (3 : Int32)), (.int (1 : Int32))] h0 (Pur h0 (.int ((128 : Int32) + ((p0 / (64 : Int32)) % (64 : Int32))))) := by
  refine Does.of (plainFor_of_name o_pn1) ?_
  intro p e s m below meth c T0 hx hby hml hown hnm hret hlk hZ X0 e0
  have hown : s.vm.findClass "com/example/variform/variform/variant/Utf8ByteOfPinLaw" = some m.cls := hown
  have hml : c.maxLocals = 7 := hml
  have hret : meth.sig.returnType = some .int := hret
  refine o_entry (o_ef10 m p0) ?_
  refine o_iloadN X0 hx (hb hby d_method_2_code_0) (v := (3 : Int32)) rfl (n := 1) rfl ?_
  refine o_iconst X0 hx (hb hby d_method_2_code_1) (v := (1 : Int32)) rfl (n := 2) rfl ?_
  refine o_icmpY X0 hx (hb hby d_method_2_code_2) (XT.ii_ne_t (by decide)) (by decide) (n := 7) (by decide) ?_
  refine o_iloadN X0 hx (hb hby d_method_2_code_7) (v := (3 : Int32)) rfl (n := 8) rfl ?_
  refine o_iconst X0 hx (hb hby d_method_2_code_8) (v := (1 : Int32)) rfl (n := 9) rfl ?_
  refine o_isub X0 hx (hb hby d_method_2_code_9) (v := (2 : Int32)) (by decide) (n := 10) rfl ?_
  refine o_iloadN X0 hx (hb hby d_method_2_code_10) (v := (1 : Int32)) rfl (n := 11) rfl ?_
  refine o_isub X0 hx (hb hby d_method_2_code_11) (v := (1 : Int32)) (by decide) (n := 12) rfl ?_
  refine o_istoreN X0 hx (hb hby d_method_2_code_12) (Ls' := #[.val (.int p0), .val (.int (3 : Int32)), .val (.int (1 : Int32)), .val (.int (1 : Int32)), .unset, .unset, .unset]) rfl (n := 13) rfl ?_
  refine o_iloadN X0 hx (hb hby d_method_2_code_13) (v := (1 : Int32)) rfl (n := 14) rfl ?_
  refine o_ifY X0 hx (hb hby d_method_2_code_14) (XT.i0_ne_t (by decide)) (by decide) (n := 21) (by decide) ?_
  refine o_iloadN X0 hx (hb hby d_method_2_code_21) (v := (1 : Int32)) rfl (n := 22) rfl ?_
  refine o_iconst X0 hx (hb hby d_method_2_code_22) (v := (1 : Int32)) rfl (n := 23) rfl ?_
  refine o_icmpN X0 hx (hb hby d_method_2_code_23) (XT.ii_ne_f (by decide)) (n := 26) rfl ?_
  refine o_bipush X0 hx (hb hby d_method_2_code_26) (v := (64 : Int32)) rfl (n := 28) rfl ?_
  refine o_goto X0 hx (hb hby d_method_2_code_28) (by decide) (n := 44) (by decide) ?_
  refine o_istore X0 hx (hb hby d_method_2_code_44) (Ls' := #[.val (.int p0), .val (.int (3 : Int32)), .val (.int (1 : Int32)), .val (.int (1 : Int32)), .val (.int (64 : Int32)), .unset, .unset]) rfl (n := 46) rfl ?_
  refine o_iloadN X0 hx (hb hby d_method_2_code_46) (v := p0) rfl (n := 47) rfl ?_
  refine o_iload X0 hx (hb hby d_method_2_code_47) (v := (64 : Int32)) rfl (n := 49) rfl ?_
  refine o_idiv X0 hx (hb hby d_method_2_code_49) (by decide) (v := (p0 / (64 : Int32))) rfl (n := 50) rfl ?_
  refine o_istore X0 hx (hb hby d_method_2_code_50) (Ls' := #[.val (.int p0), .val (.int (3 : Int32)), .val (.int (1 : Int32)), .val (.int (1 : Int32)), .val (.int (64 : Int32)), .val (.int (p0 / (64 : Int32))), .unset]) rfl (n := 52) rfl ?_
  refine o_iloadN X0 hx (hb hby d_method_2_code_52) (v := (1 : Int32)) rfl (n := 53) rfl ?_
  refine o_ifY X0 hx (hb hby d_method_2_code_53) (XT.i0_ne_t (by decide)) (by decide) (n := 89) (by decide) ?_
  refine o_sipush X0 hx (hb hby d_method_2_code_89) (v := (128 : Int32)) rfl (n := 92) rfl ?_
  refine o_iload X0 hx (hb hby d_method_2_code_92) (v := (p0 / (64 : Int32))) rfl (n := 94) rfl ?_
  refine o_bipush X0 hx (hb hby d_method_2_code_94) (v := (64 : Int32)) rfl (n := 96) rfl ?_
  refine o_irem X0 hx (hb hby d_method_2_code_96) (by decide) (v := ((p0 / (64 : Int32)) % (64 : Int32))) rfl (n := 97) rfl ?_
  refine o_iadd X0 hx (hb hby d_method_2_code_97) (v := ((128 : Int32) + ((p0 / (64 : Int32)) % (64 : Int32)))) rfl (n := 98) rfl ?_
  exact o_ireturn X0 hx hret hlk (hb hby d_method_2_code_98) (by decide) (by decide) e0 ⟨rfl, rfl, rfl⟩
theorem o_ef11 (m : MethodId) (p0 : Int32) : entryFrame m #[(.int p0), (.int (3 : Int32)), (.int (2 : Int32))] 4 = mkF m 0 #[.val (.int p0), .val (.int (3 : Int32)), .val (.int (2 : Int32)), .unset] [] := by first | (simp [entryFrame, mkF, argsToLocals, Value.category]; done) | rfl
set_option maxRecDepth 65536 in
set_option maxHeartbeats 40000000 in
theorem c_byteOf_3_2 (l : Launch) (Z : State) (a0 : Array Value) (hw : ∀ d ∈ tables_1, d.before a0 Z = true) (p0 : Int32) (h0 : Heap) :
    Does l Z (⟨"com/example/variform/variform/variant/Utf8", "byteOf", "(III)I"⟩ : MethodName) prog_28_method_8_code 4 (some .int) [] ({ frames := 0, cells := 0, slots := 0, locals := 0 } : Room) #[(.int p0), (.int (3 : Int32)), (.int (2 : Int32))] h0 (Pur h0 (.int ((128 : Int32) ||| ((p0.toUInt32 >>> (0 : UInt32)).toInt32 &&& (63 : Int32))))) := by
  refine Does.of (plainFor_of_name o_pn0) ?_
  intro p e s m below meth c T0 hx hby hml hown hnm hret hlk hZ X0 e0
  have hown : s.vm.findClass "com/example/variform/variform/variant/Utf8" = some m.cls := hown
  have hml : c.maxLocals = 4 := hml
  have hret : meth.sig.returnType = some .int := hret
  refine o_entry (o_ef11 m p0) ?_
  refine o_bipush X0 hx (hb hby d_prog_28_method_8_code_0) (v := (6 : Int32)) rfl (n := 2) rfl ?_
  refine o_iloadN X0 hx (hb hby d_prog_28_method_8_code_2) (v := (3 : Int32)) rfl (n := 3) rfl ?_
  refine o_iconst X0 hx (hb hby d_prog_28_method_8_code_3) (v := (1 : Int32)) rfl (n := 4) rfl ?_
  refine o_isub X0 hx (hb hby d_prog_28_method_8_code_4) (v := (2 : Int32)) (by decide) (n := 5) rfl ?_
  refine o_iloadN X0 hx (hb hby d_prog_28_method_8_code_5) (v := (2 : Int32)) rfl (n := 6) rfl ?_
  refine o_isub X0 hx (hb hby d_prog_28_method_8_code_6) (v := (0 : Int32)) (by decide) (n := 7) rfl ?_
  refine o_imul X0 hx (hb hby d_prog_28_method_8_code_7) (v := (0 : Int32)) (by decide) (n := 8) rfl ?_
  refine o_istoreN X0 hx (hb hby d_prog_28_method_8_code_8) (Ls' := #[.val (.int p0), .val (.int (3 : Int32)), .val (.int (2 : Int32)), .val (.int (0 : Int32))]) rfl (n := 9) rfl ?_
  refine o_iloadN X0 hx (hb hby d_prog_28_method_8_code_9) (v := (2 : Int32)) rfl (n := 10) rfl ?_
  refine o_ifN X0 hx (hb hby d_prog_28_method_8_code_10) (XT.i0_le_f (by decide)) (n := 13) rfl ?_
  refine o_sipush X0 hx (hb hby d_prog_28_method_8_code_13) (v := (128 : Int32)) rfl (n := 16) rfl ?_
  refine o_iloadN X0 hx (hb hby d_prog_28_method_8_code_16) (v := p0) rfl (n := 17) rfl ?_
  refine o_iloadN X0 hx (hb hby d_prog_28_method_8_code_17) (v := (0 : Int32)) rfl (n := 18) rfl ?_
  refine o_iushr X0 hx (hb hby d_prog_28_method_8_code_18) (v := (p0.toUInt32 >>> (0 : UInt32)).toInt32) (congrArg (fun q : UInt32 => (p0.toUInt32 >>> q).toInt32) (show ((0 : Int32) &&& 31).toUInt32 = 0 by decide)) (n := 19) rfl ?_
  refine o_bipush X0 hx (hb hby d_prog_28_method_8_code_19) (v := (63 : Int32)) rfl (n := 21) rfl ?_
  refine o_iand X0 hx (hb hby d_prog_28_method_8_code_21) (v := ((p0.toUInt32 >>> (0 : UInt32)).toInt32 &&& (63 : Int32))) rfl (n := 22) rfl ?_
  refine o_ior X0 hx (hb hby d_prog_28_method_8_code_22) (v := ((128 : Int32) ||| ((p0.toUInt32 >>> (0 : UInt32)).toInt32 &&& (63 : Int32)))) rfl (n := 23) rfl ?_
  exact o_ireturn X0 hx hret hlk (hb hby d_prog_28_method_8_code_23) (by decide) (by decide) e0 ⟨rfl, rfl, rfl⟩
theorem o_ef12 (m : MethodId) (p0 : Int32) : entryFrame m #[(.int p0), (.int (3 : Int32)), (.int (2 : Int32))] 7 = mkF m 0 #[.val (.int p0), .val (.int (3 : Int32)), .val (.int (2 : Int32)), .unset, .unset, .unset, .unset] [] := by first | (simp [entryFrame, mkF, argsToLocals, Value.category]; done) | rfl
set_option maxRecDepth 65536 in
set_option maxHeartbeats 40000000 in
theorem c_ref_3_2 (l : Launch) (Z : State) (a0 : Array Value) (hw : ∀ d ∈ tables_1, d.before a0 Z = true) (p0 : Int32) (h0 : Heap) :
    Does l Z (⟨"com/example/variform/variform/variant/Utf8ByteOfPinLaw", "ref", "(III)I"⟩ : MethodName) method_2_code 7 (some .int) [] ({ frames := 0, cells := 0, slots := 0, locals := 0 } : Room) #[(.int p0), (.int (3 : Int32)), (.int (2 : Int32))] h0 (Pur h0 (.int ((128 : Int32) + ((p0 / (1 : Int32)) % (64 : Int32))))) := by
  refine Does.of (plainFor_of_name o_pn1) ?_
  intro p e s m below meth c T0 hx hby hml hown hnm hret hlk hZ X0 e0
  have hown : s.vm.findClass "com/example/variform/variform/variant/Utf8ByteOfPinLaw" = some m.cls := hown
  have hml : c.maxLocals = 7 := hml
  have hret : meth.sig.returnType = some .int := hret
  refine o_entry (o_ef12 m p0) ?_
  refine o_iloadN X0 hx (hb hby d_method_2_code_0) (v := (3 : Int32)) rfl (n := 1) rfl ?_
  refine o_iconst X0 hx (hb hby d_method_2_code_1) (v := (1 : Int32)) rfl (n := 2) rfl ?_
  refine o_icmpY X0 hx (hb hby d_method_2_code_2) (XT.ii_ne_t (by decide)) (by decide) (n := 7) (by decide) ?_
  refine o_iloadN X0 hx (hb hby d_method_2_code_7) (v := (3 : Int32)) rfl (n := 8) rfl ?_
  refine o_iconst X0 hx (hb hby d_method_2_code_8) (v := (1 : Int32)) rfl (n := 9) rfl ?_
  refine o_isub X0 hx (hb hby d_method_2_code_9) (v := (2 : Int32)) (by decide) (n := 10) rfl ?_
  refine o_iloadN X0 hx (hb hby d_method_2_code_10) (v := (2 : Int32)) rfl (n := 11) rfl ?_
  refine o_isub X0 hx (hb hby d_method_2_code_11) (v := (0 : Int32)) (by decide) (n := 12) rfl ?_
  refine o_istoreN X0 hx (hb hby d_method_2_code_12) (Ls' := #[.val (.int p0), .val (.int (3 : Int32)), .val (.int (2 : Int32)), .val (.int (0 : Int32)), .unset, .unset, .unset]) rfl (n := 13) rfl ?_
  refine o_iloadN X0 hx (hb hby d_method_2_code_13) (v := (0 : Int32)) rfl (n := 14) rfl ?_
  refine o_ifN X0 hx (hb hby d_method_2_code_14) (XT.i0_ne_f (by decide)) (n := 17) rfl ?_
  refine o_iconst X0 hx (hb hby d_method_2_code_17) (v := (1 : Int32)) rfl (n := 18) rfl ?_
  refine o_goto X0 hx (hb hby d_method_2_code_18) (by decide) (n := 44) (by decide) ?_
  refine o_istore X0 hx (hb hby d_method_2_code_44) (Ls' := #[.val (.int p0), .val (.int (3 : Int32)), .val (.int (2 : Int32)), .val (.int (0 : Int32)), .val (.int (1 : Int32)), .unset, .unset]) rfl (n := 46) rfl ?_
  refine o_iloadN X0 hx (hb hby d_method_2_code_46) (v := p0) rfl (n := 47) rfl ?_
  refine o_iload X0 hx (hb hby d_method_2_code_47) (v := (1 : Int32)) rfl (n := 49) rfl ?_
  refine o_idiv X0 hx (hb hby d_method_2_code_49) (by decide) (v := (p0 / (1 : Int32))) rfl (n := 50) rfl ?_
  refine o_istore X0 hx (hb hby d_method_2_code_50) (Ls' := #[.val (.int p0), .val (.int (3 : Int32)), .val (.int (2 : Int32)), .val (.int (0 : Int32)), .val (.int (1 : Int32)), .val (.int (p0 / (1 : Int32))), .unset]) rfl (n := 52) rfl ?_
  refine o_iloadN X0 hx (hb hby d_method_2_code_52) (v := (2 : Int32)) rfl (n := 53) rfl ?_
  refine o_ifY X0 hx (hb hby d_method_2_code_53) (XT.i0_ne_t (by decide)) (by decide) (n := 89) (by decide) ?_
  refine o_sipush X0 hx (hb hby d_method_2_code_89) (v := (128 : Int32)) rfl (n := 92) rfl ?_
  refine o_iload X0 hx (hb hby d_method_2_code_92) (v := (p0 / (1 : Int32))) rfl (n := 94) rfl ?_
  refine o_bipush X0 hx (hb hby d_method_2_code_94) (v := (64 : Int32)) rfl (n := 96) rfl ?_
  refine o_irem X0 hx (hb hby d_method_2_code_96) (by decide) (v := ((p0 / (1 : Int32)) % (64 : Int32))) rfl (n := 97) rfl ?_
  refine o_iadd X0 hx (hb hby d_method_2_code_97) (v := ((128 : Int32) + ((p0 / (1 : Int32)) % (64 : Int32)))) rfl (n := 98) rfl ?_
  exact o_ireturn X0 hx hret hlk (hb hby d_method_2_code_98) (by decide) (by decide) e0 ⟨rfl, rfl, rfl⟩
theorem o_ef13 (m : MethodId) (p0 : Int32) : entryFrame m #[(.int p0), (.int (4 : Int32)), (.int (0 : Int32))] 4 = mkF m 0 #[.val (.int p0), .val (.int (4 : Int32)), .val (.int (0 : Int32)), .unset] [] := by first | (simp [entryFrame, mkF, argsToLocals, Value.category]; done) | rfl
set_option maxRecDepth 65536 in
set_option maxHeartbeats 40000000 in
theorem c_byteOf_4_0 (l : Launch) (Z : State) (a0 : Array Value) (hw : ∀ d ∈ tables_1, d.before a0 Z = true) (p0 : Int32) (h0 : Heap) :
    Does l Z (⟨"com/example/variform/variform/variant/Utf8", "byteOf", "(III)I"⟩ : MethodName) prog_28_method_8_code 4 (some .int) [] ({ frames := 0, cells := 0, slots := 0, locals := 0 } : Room) #[(.int p0), (.int (4 : Int32)), (.int (0 : Int32))] h0 (Pur h0 (.int ((240 : Int32) ||| (p0.toUInt32 >>> (18 : UInt32)).toInt32))) := by
  refine Does.of (plainFor_of_name o_pn0) ?_
  intro p e s m below meth c T0 hx hby hml hown hnm hret hlk hZ X0 e0
  have hown : s.vm.findClass "com/example/variform/variform/variant/Utf8" = some m.cls := hown
  have hml : c.maxLocals = 4 := hml
  have hret : meth.sig.returnType = some .int := hret
  refine o_entry (o_ef13 m p0) ?_
  refine o_bipush X0 hx (hb hby d_prog_28_method_8_code_0) (v := (6 : Int32)) rfl (n := 2) rfl ?_
  refine o_iloadN X0 hx (hb hby d_prog_28_method_8_code_2) (v := (4 : Int32)) rfl (n := 3) rfl ?_
  refine o_iconst X0 hx (hb hby d_prog_28_method_8_code_3) (v := (1 : Int32)) rfl (n := 4) rfl ?_
  refine o_isub X0 hx (hb hby d_prog_28_method_8_code_4) (v := (3 : Int32)) (by decide) (n := 5) rfl ?_
  refine o_iloadN X0 hx (hb hby d_prog_28_method_8_code_5) (v := (0 : Int32)) rfl (n := 6) rfl ?_
  refine o_isub X0 hx (hb hby d_prog_28_method_8_code_6) (v := (3 : Int32)) (by decide) (n := 7) rfl ?_
  refine o_imul X0 hx (hb hby d_prog_28_method_8_code_7) (v := (18 : Int32)) (by decide) (n := 8) rfl ?_
  refine o_istoreN X0 hx (hb hby d_prog_28_method_8_code_8) (Ls' := #[.val (.int p0), .val (.int (4 : Int32)), .val (.int (0 : Int32)), .val (.int (18 : Int32))]) rfl (n := 9) rfl ?_
  refine o_iloadN X0 hx (hb hby d_prog_28_method_8_code_9) (v := (0 : Int32)) rfl (n := 10) rfl ?_
  refine o_ifY X0 hx (hb hby d_prog_28_method_8_code_10) (XT.i0_le_t (by decide)) (by decide) (n := 24) (by decide) ?_
  refine o_iloadN X0 hx (hb hby d_prog_28_method_8_code_24) (v := (4 : Int32)) rfl (n := 25) rfl ?_
  refine o_iconst X0 hx (hb hby d_prog_28_method_8_code_25) (v := (1 : Int32)) rfl (n := 26) rfl ?_
  refine o_icmpY X0 hx (hb hby d_prog_28_method_8_code_26) (XT.ii_ne_t (by decide)) (by decide) (n := 33) (by decide) ?_
  refine o_ldc X0 hx hZ (v := (65280 : Int32)) hown (hw _ (List.mem_of_getElem? (i := 13) rfl)) (hb hby d_prog_28_method_8_code_33) (n := 35) rfl ?_
  refine o_iloadN X0 hx (hb hby d_prog_28_method_8_code_35) (v := (4 : Int32)) rfl (n := 36) rfl ?_
  refine o_ishr X0 hx (hb hby d_prog_28_method_8_code_36) (v := (4080 : Int32)) (by decide) (n := 37) rfl ?_
  refine o_sipush X0 hx (hb hby d_prog_28_method_8_code_37) (v := (255 : Int32)) rfl (n := 40) rfl ?_
  refine o_iand X0 hx (hb hby d_prog_28_method_8_code_40) (v := (240 : Int32)) (by decide) (n := 41) rfl ?_
  refine o_iloadN X0 hx (hb hby d_prog_28_method_8_code_41) (v := p0) rfl (n := 42) rfl ?_
  refine o_iloadN X0 hx (hb hby d_prog_28_method_8_code_42) (v := (18 : Int32)) rfl (n := 43) rfl ?_
  refine o_iushr X0 hx (hb hby d_prog_28_method_8_code_43) (v := (p0.toUInt32 >>> (18 : UInt32)).toInt32) (congrArg (fun q : UInt32 => (p0.toUInt32 >>> q).toInt32) (show ((18 : Int32) &&& 31).toUInt32 = 18 by decide)) (n := 44) rfl ?_
  refine o_ior X0 hx (hb hby d_prog_28_method_8_code_44) (v := ((240 : Int32) ||| (p0.toUInt32 >>> (18 : UInt32)).toInt32)) rfl (n := 45) rfl ?_
  exact o_ireturn X0 hx hret hlk (hb hby d_prog_28_method_8_code_45) (by decide) (by decide) e0 ⟨rfl, rfl, rfl⟩
theorem d_method_2_code_42 : decode method_2_code 42 = .ok (.ldc 7, 2) := by decide +kernel
theorem d_method_2_code_78 : decode method_2_code 78 = .ok (.sipush 240, 3) := by decide +kernel
theorem o_ef14 (m : MethodId) (p0 : Int32) : entryFrame m #[(.int p0), (.int (4 : Int32)), (.int (0 : Int32))] 7 = mkF m 0 #[.val (.int p0), .val (.int (4 : Int32)), .val (.int (0 : Int32)), .unset, .unset, .unset, .unset] [] := by first | (simp [entryFrame, mkF, argsToLocals, Value.category]; done) | rfl
set_option maxRecDepth 65536 in
set_option maxHeartbeats 40000000 in
theorem c_ref_4_0 (l : Launch) (Z : State) (a0 : Array Value) (hw : ∀ d ∈ tables_1, d.before a0 Z = true) (p0 : Int32) (h0 : Heap) :
    Does l Z (⟨"com/example/variform/variform/variant/Utf8ByteOfPinLaw", "ref", "(III)I"⟩ : MethodName) method_2_code 7 (some .int) [] ({ frames := 0, cells := 0, slots := 0, locals := 0 } : Room) #[(.int p0), (.int (4 : Int32)), (.int (0 : Int32))] h0 (Pur h0 (.int ((240 : Int32) + (p0 / (262144 : Int32))))) := by
  refine Does.of (plainFor_of_name o_pn1) ?_
  intro p e s m below meth c T0 hx hby hml hown hnm hret hlk hZ X0 e0
  have hown : s.vm.findClass "com/example/variform/variform/variant/Utf8ByteOfPinLaw" = some m.cls := hown
  have hml : c.maxLocals = 7 := hml
  have hret : meth.sig.returnType = some .int := hret
  refine o_entry (o_ef14 m p0) ?_
  refine o_iloadN X0 hx (hb hby d_method_2_code_0) (v := (4 : Int32)) rfl (n := 1) rfl ?_
  refine o_iconst X0 hx (hb hby d_method_2_code_1) (v := (1 : Int32)) rfl (n := 2) rfl ?_
  refine o_icmpY X0 hx (hb hby d_method_2_code_2) (XT.ii_ne_t (by decide)) (by decide) (n := 7) (by decide) ?_
  refine o_iloadN X0 hx (hb hby d_method_2_code_7) (v := (4 : Int32)) rfl (n := 8) rfl ?_
  refine o_iconst X0 hx (hb hby d_method_2_code_8) (v := (1 : Int32)) rfl (n := 9) rfl ?_
  refine o_isub X0 hx (hb hby d_method_2_code_9) (v := (3 : Int32)) (by decide) (n := 10) rfl ?_
  refine o_iloadN X0 hx (hb hby d_method_2_code_10) (v := (0 : Int32)) rfl (n := 11) rfl ?_
  refine o_isub X0 hx (hb hby d_method_2_code_11) (v := (3 : Int32)) (by decide) (n := 12) rfl ?_
  refine o_istoreN X0 hx (hb hby d_method_2_code_12) (Ls' := #[.val (.int p0), .val (.int (4 : Int32)), .val (.int (0 : Int32)), .val (.int (3 : Int32)), .unset, .unset, .unset]) rfl (n := 13) rfl ?_
  refine o_iloadN X0 hx (hb hby d_method_2_code_13) (v := (3 : Int32)) rfl (n := 14) rfl ?_
  refine o_ifY X0 hx (hb hby d_method_2_code_14) (XT.i0_ne_t (by decide)) (by decide) (n := 21) (by decide) ?_
  refine o_iloadN X0 hx (hb hby d_method_2_code_21) (v := (3 : Int32)) rfl (n := 22) rfl ?_
  refine o_iconst X0 hx (hb hby d_method_2_code_22) (v := (1 : Int32)) rfl (n := 23) rfl ?_
  refine o_icmpY X0 hx (hb hby d_method_2_code_23) (XT.ii_ne_t (by decide)) (by decide) (n := 31) (by decide) ?_
  refine o_iloadN X0 hx (hb hby d_method_2_code_31) (v := (3 : Int32)) rfl (n := 32) rfl ?_
  refine o_iconst X0 hx (hb hby d_method_2_code_32) (v := (2 : Int32)) rfl (n := 33) rfl ?_
  refine o_icmpY X0 hx (hb hby d_method_2_code_33) (XT.ii_ne_t (by decide)) (by decide) (n := 42) (by decide) ?_
  refine o_ldc X0 hx hZ (v := (262144 : Int32)) hown (hw _ (List.mem_of_getElem? (i := 16) rfl)) (hb hby d_method_2_code_42) (n := 44) rfl ?_
  refine o_istore X0 hx (hb hby d_method_2_code_44) (Ls' := #[.val (.int p0), .val (.int (4 : Int32)), .val (.int (0 : Int32)), .val (.int (3 : Int32)), .val (.int (262144 : Int32)), .unset, .unset]) rfl (n := 46) rfl ?_
  refine o_iloadN X0 hx (hb hby d_method_2_code_46) (v := p0) rfl (n := 47) rfl ?_
  refine o_iload X0 hx (hb hby d_method_2_code_47) (v := (262144 : Int32)) rfl (n := 49) rfl ?_
  refine o_idiv X0 hx (hb hby d_method_2_code_49) (by decide) (v := (p0 / (262144 : Int32))) rfl (n := 50) rfl ?_
  refine o_istore X0 hx (hb hby d_method_2_code_50) (Ls' := #[.val (.int p0), .val (.int (4 : Int32)), .val (.int (0 : Int32)), .val (.int (3 : Int32)), .val (.int (262144 : Int32)), .val (.int (p0 / (262144 : Int32))), .unset]) rfl (n := 52) rfl ?_
  refine o_iloadN X0 hx (hb hby d_method_2_code_52) (v := (0 : Int32)) rfl (n := 53) rfl ?_
  refine o_ifN X0 hx (hb hby d_method_2_code_53) (XT.i0_ne_f (by decide)) (n := 56) rfl ?_
  refine o_iloadN X0 hx (hb hby d_method_2_code_56) (v := (4 : Int32)) rfl (n := 57) rfl ?_
  refine o_iconst X0 hx (hb hby d_method_2_code_57) (v := (2 : Int32)) rfl (n := 58) rfl ?_
  refine o_icmpY X0 hx (hb hby d_method_2_code_58) (XT.ii_ne_t (by decide)) (by decide) (n := 67) (by decide) ?_
  refine o_iloadN X0 hx (hb hby d_method_2_code_67) (v := (4 : Int32)) rfl (n := 68) rfl ?_
  refine o_iconst X0 hx (hb hby d_method_2_code_68) (v := (3 : Int32)) rfl (n := 69) rfl ?_
  refine o_icmpY X0 hx (hb hby d_method_2_code_69) (XT.ii_ne_t (by decide)) (by decide) (n := 78) (by decide) ?_
  refine o_sipush X0 hx (hb hby d_method_2_code_78) (v := (240 : Int32)) rfl (n := 81) rfl ?_
  refine o_istore X0 hx (hb hby d_method_2_code_81) (Ls' := #[.val (.int p0), .val (.int (4 : Int32)), .val (.int (0 : Int32)), .val (.int (3 : Int32)), .val (.int (262144 : Int32)), .val (.int (p0 / (262144 : Int32))), .val (.int (240 : Int32))]) rfl (n := 83) rfl ?_
  refine o_iload X0 hx (hb hby d_method_2_code_83) (v := (240 : Int32)) rfl (n := 85) rfl ?_
  refine o_iload X0 hx (hb hby d_method_2_code_85) (v := (p0 / (262144 : Int32))) rfl (n := 87) rfl ?_
  refine o_iadd X0 hx (hb hby d_method_2_code_87) (v := ((240 : Int32) + (p0 / (262144 : Int32)))) rfl (n := 88) rfl ?_
  exact o_ireturn X0 hx hret hlk (hb hby d_method_2_code_88) (by decide) (by decide) e0 ⟨rfl, rfl, rfl⟩
theorem o_ef15 (m : MethodId) (p0 : Int32) : entryFrame m #[(.int p0), (.int (4 : Int32)), (.int (1 : Int32))] 4 = mkF m 0 #[.val (.int p0), .val (.int (4 : Int32)), .val (.int (1 : Int32)), .unset] [] := by first | (simp [entryFrame, mkF, argsToLocals, Value.category]; done) | rfl
set_option maxRecDepth 65536 in
set_option maxHeartbeats 40000000 in
theorem c_byteOf_4_1 (l : Launch) (Z : State) (a0 : Array Value) (hw : ∀ d ∈ tables_1, d.before a0 Z = true) (p0 : Int32) (h0 : Heap) :
    Does l Z (⟨"com/example/variform/variform/variant/Utf8", "byteOf", "(III)I"⟩ : MethodName) prog_28_method_8_code 4 (some .int) [] ({ frames := 0, cells := 0, slots := 0, locals := 0 } : Room) #[(.int p0), (.int (4 : Int32)), (.int (1 : Int32))] h0 (Pur h0 (.int ((128 : Int32) ||| ((p0.toUInt32 >>> (12 : UInt32)).toInt32 &&& (63 : Int32))))) := by
  refine Does.of (plainFor_of_name o_pn0) ?_
  intro p e s m below meth c T0 hx hby hml hown hnm hret hlk hZ X0 e0
  have hown : s.vm.findClass "com/example/variform/variform/variant/Utf8" = some m.cls := hown
  have hml : c.maxLocals = 4 := hml
  have hret : meth.sig.returnType = some .int := hret
  refine o_entry (o_ef15 m p0) ?_
  refine o_bipush X0 hx (hb hby d_prog_28_method_8_code_0) (v := (6 : Int32)) rfl (n := 2) rfl ?_
  refine o_iloadN X0 hx (hb hby d_prog_28_method_8_code_2) (v := (4 : Int32)) rfl (n := 3) rfl ?_
  refine o_iconst X0 hx (hb hby d_prog_28_method_8_code_3) (v := (1 : Int32)) rfl (n := 4) rfl ?_
  refine o_isub X0 hx (hb hby d_prog_28_method_8_code_4) (v := (3 : Int32)) (by decide) (n := 5) rfl ?_
  refine o_iloadN X0 hx (hb hby d_prog_28_method_8_code_5) (v := (1 : Int32)) rfl (n := 6) rfl ?_
  refine o_isub X0 hx (hb hby d_prog_28_method_8_code_6) (v := (2 : Int32)) (by decide) (n := 7) rfl ?_
  refine o_imul X0 hx (hb hby d_prog_28_method_8_code_7) (v := (12 : Int32)) (by decide) (n := 8) rfl ?_
  refine o_istoreN X0 hx (hb hby d_prog_28_method_8_code_8) (Ls' := #[.val (.int p0), .val (.int (4 : Int32)), .val (.int (1 : Int32)), .val (.int (12 : Int32))]) rfl (n := 9) rfl ?_
  refine o_iloadN X0 hx (hb hby d_prog_28_method_8_code_9) (v := (1 : Int32)) rfl (n := 10) rfl ?_
  refine o_ifN X0 hx (hb hby d_prog_28_method_8_code_10) (XT.i0_le_f (by decide)) (n := 13) rfl ?_
  refine o_sipush X0 hx (hb hby d_prog_28_method_8_code_13) (v := (128 : Int32)) rfl (n := 16) rfl ?_
  refine o_iloadN X0 hx (hb hby d_prog_28_method_8_code_16) (v := p0) rfl (n := 17) rfl ?_
  refine o_iloadN X0 hx (hb hby d_prog_28_method_8_code_17) (v := (12 : Int32)) rfl (n := 18) rfl ?_
  refine o_iushr X0 hx (hb hby d_prog_28_method_8_code_18) (v := (p0.toUInt32 >>> (12 : UInt32)).toInt32) (congrArg (fun q : UInt32 => (p0.toUInt32 >>> q).toInt32) (show ((12 : Int32) &&& 31).toUInt32 = 12 by decide)) (n := 19) rfl ?_
  refine o_bipush X0 hx (hb hby d_prog_28_method_8_code_19) (v := (63 : Int32)) rfl (n := 21) rfl ?_
  refine o_iand X0 hx (hb hby d_prog_28_method_8_code_21) (v := ((p0.toUInt32 >>> (12 : UInt32)).toInt32 &&& (63 : Int32))) rfl (n := 22) rfl ?_
  refine o_ior X0 hx (hb hby d_prog_28_method_8_code_22) (v := ((128 : Int32) ||| ((p0.toUInt32 >>> (12 : UInt32)).toInt32 &&& (63 : Int32)))) rfl (n := 23) rfl ?_
  exact o_ireturn X0 hx hret hlk (hb hby d_prog_28_method_8_code_23) (by decide) (by decide) e0 ⟨rfl, rfl, rfl⟩
theorem o_ef16 (m : MethodId) (p0 : Int32) : entryFrame m #[(.int p0), (.int (4 : Int32)), (.int (1 : Int32))] 7 = mkF m 0 #[.val (.int p0), .val (.int (4 : Int32)), .val (.int (1 : Int32)), .unset, .unset, .unset, .unset] [] := by first | (simp [entryFrame, mkF, argsToLocals, Value.category]; done) | rfl
set_option maxRecDepth 65536 in
set_option maxHeartbeats 40000000 in
theorem c_ref_4_1 (l : Launch) (Z : State) (a0 : Array Value) (hw : ∀ d ∈ tables_1, d.before a0 Z = true) (p0 : Int32) (h0 : Heap) :
    Does l Z (⟨"com/example/variform/variform/variant/Utf8ByteOfPinLaw", "ref", "(III)I"⟩ : MethodName) method_2_code 7 (some .int) [] ({ frames := 0, cells := 0, slots := 0, locals := 0 } : Room) #[(.int p0), (.int (4 : Int32)), (.int (1 : Int32))] h0 (Pur h0 (.int ((128 : Int32) + ((p0 / (4096 : Int32)) % (64 : Int32))))) := by
  refine Does.of (plainFor_of_name o_pn1) ?_
  intro p e s m below meth c T0 hx hby hml hown hnm hret hlk hZ X0 e0
  have hown : s.vm.findClass "com/example/variform/variform/variant/Utf8ByteOfPinLaw" = some m.cls := hown
  have hml : c.maxLocals = 7 := hml
  have hret : meth.sig.returnType = some .int := hret
  refine o_entry (o_ef16 m p0) ?_
  refine o_iloadN X0 hx (hb hby d_method_2_code_0) (v := (4 : Int32)) rfl (n := 1) rfl ?_
  refine o_iconst X0 hx (hb hby d_method_2_code_1) (v := (1 : Int32)) rfl (n := 2) rfl ?_
  refine o_icmpY X0 hx (hb hby d_method_2_code_2) (XT.ii_ne_t (by decide)) (by decide) (n := 7) (by decide) ?_
  refine o_iloadN X0 hx (hb hby d_method_2_code_7) (v := (4 : Int32)) rfl (n := 8) rfl ?_
  refine o_iconst X0 hx (hb hby d_method_2_code_8) (v := (1 : Int32)) rfl (n := 9) rfl ?_
  refine o_isub X0 hx (hb hby d_method_2_code_9) (v := (3 : Int32)) (by decide) (n := 10) rfl ?_
  refine o_iloadN X0 hx (hb hby d_method_2_code_10) (v := (1 : Int32)) rfl (n := 11) rfl ?_
  refine o_isub X0 hx (hb hby d_method_2_code_11) (v := (2 : Int32)) (by decide) (n := 12) rfl ?_
  refine o_istoreN X0 hx (hb hby d_method_2_code_12) (Ls' := #[.val (.int p0), .val (.int (4 : Int32)), .val (.int (1 : Int32)), .val (.int (2 : Int32)), .unset, .unset, .unset]) rfl (n := 13) rfl ?_
  refine o_iloadN X0 hx (hb hby d_method_2_code_13) (v := (2 : Int32)) rfl (n := 14) rfl ?_
  refine o_ifY X0 hx (hb hby d_method_2_code_14) (XT.i0_ne_t (by decide)) (by decide) (n := 21) (by decide) ?_
  refine o_iloadN X0 hx (hb hby d_method_2_code_21) (v := (2 : Int32)) rfl (n := 22) rfl ?_
  refine o_iconst X0 hx (hb hby d_method_2_code_22) (v := (1 : Int32)) rfl (n := 23) rfl ?_
  refine o_icmpY X0 hx (hb hby d_method_2_code_23) (XT.ii_ne_t (by decide)) (by decide) (n := 31) (by decide) ?_
  refine o_iloadN X0 hx (hb hby d_method_2_code_31) (v := (2 : Int32)) rfl (n := 32) rfl ?_
  refine o_iconst X0 hx (hb hby d_method_2_code_32) (v := (2 : Int32)) rfl (n := 33) rfl ?_
  refine o_icmpN X0 hx (hb hby d_method_2_code_33) (XT.ii_ne_f (by decide)) (n := 36) rfl ?_
  refine o_sipush X0 hx (hb hby d_method_2_code_36) (v := (4096 : Int32)) rfl (n := 39) rfl ?_
  refine o_goto X0 hx (hb hby d_method_2_code_39) (by decide) (n := 44) (by decide) ?_
  refine o_istore X0 hx (hb hby d_method_2_code_44) (Ls' := #[.val (.int p0), .val (.int (4 : Int32)), .val (.int (1 : Int32)), .val (.int (2 : Int32)), .val (.int (4096 : Int32)), .unset, .unset]) rfl (n := 46) rfl ?_
  refine o_iloadN X0 hx (hb hby d_method_2_code_46) (v := p0) rfl (n := 47) rfl ?_
  refine o_iload X0 hx (hb hby d_method_2_code_47) (v := (4096 : Int32)) rfl (n := 49) rfl ?_
  refine o_idiv X0 hx (hb hby d_method_2_code_49) (by decide) (v := (p0 / (4096 : Int32))) rfl (n := 50) rfl ?_
  refine o_istore X0 hx (hb hby d_method_2_code_50) (Ls' := #[.val (.int p0), .val (.int (4 : Int32)), .val (.int (1 : Int32)), .val (.int (2 : Int32)), .val (.int (4096 : Int32)), .val (.int (p0 / (4096 : Int32))), .unset]) rfl (n := 52) rfl ?_
  refine o_iloadN X0 hx (hb hby d_method_2_code_52) (v := (1 : Int32)) rfl (n := 53) rfl ?_
  refine o_ifY X0 hx (hb hby d_method_2_code_53) (XT.i0_ne_t (by decide)) (by decide) (n := 89) (by decide) ?_
  refine o_sipush X0 hx (hb hby d_method_2_code_89) (v := (128 : Int32)) rfl (n := 92) rfl ?_
  refine o_iload X0 hx (hb hby d_method_2_code_92) (v := (p0 / (4096 : Int32))) rfl (n := 94) rfl ?_
  refine o_bipush X0 hx (hb hby d_method_2_code_94) (v := (64 : Int32)) rfl (n := 96) rfl ?_
  refine o_irem X0 hx (hb hby d_method_2_code_96) (by decide) (v := ((p0 / (4096 : Int32)) % (64 : Int32))) rfl (n := 97) rfl ?_
  refine o_iadd X0 hx (hb hby d_method_2_code_97) (v := ((128 : Int32) + ((p0 / (4096 : Int32)) % (64 : Int32)))) rfl (n := 98) rfl ?_
  exact o_ireturn X0 hx hret hlk (hb hby d_method_2_code_98) (by decide) (by decide) e0 ⟨rfl, rfl, rfl⟩
theorem o_ef17 (m : MethodId) (p0 : Int32) : entryFrame m #[(.int p0), (.int (4 : Int32)), (.int (2 : Int32))] 4 = mkF m 0 #[.val (.int p0), .val (.int (4 : Int32)), .val (.int (2 : Int32)), .unset] [] := by first | (simp [entryFrame, mkF, argsToLocals, Value.category]; done) | rfl
set_option maxRecDepth 65536 in
set_option maxHeartbeats 40000000 in
theorem c_byteOf_4_2 (l : Launch) (Z : State) (a0 : Array Value) (hw : ∀ d ∈ tables_1, d.before a0 Z = true) (p0 : Int32) (h0 : Heap) :
    Does l Z (⟨"com/example/variform/variform/variant/Utf8", "byteOf", "(III)I"⟩ : MethodName) prog_28_method_8_code 4 (some .int) [] ({ frames := 0, cells := 0, slots := 0, locals := 0 } : Room) #[(.int p0), (.int (4 : Int32)), (.int (2 : Int32))] h0 (Pur h0 (.int ((128 : Int32) ||| ((p0.toUInt32 >>> (6 : UInt32)).toInt32 &&& (63 : Int32))))) := by
  refine Does.of (plainFor_of_name o_pn0) ?_
  intro p e s m below meth c T0 hx hby hml hown hnm hret hlk hZ X0 e0
  have hown : s.vm.findClass "com/example/variform/variform/variant/Utf8" = some m.cls := hown
  have hml : c.maxLocals = 4 := hml
  have hret : meth.sig.returnType = some .int := hret
  refine o_entry (o_ef17 m p0) ?_
  refine o_bipush X0 hx (hb hby d_prog_28_method_8_code_0) (v := (6 : Int32)) rfl (n := 2) rfl ?_
  refine o_iloadN X0 hx (hb hby d_prog_28_method_8_code_2) (v := (4 : Int32)) rfl (n := 3) rfl ?_
  refine o_iconst X0 hx (hb hby d_prog_28_method_8_code_3) (v := (1 : Int32)) rfl (n := 4) rfl ?_
  refine o_isub X0 hx (hb hby d_prog_28_method_8_code_4) (v := (3 : Int32)) (by decide) (n := 5) rfl ?_
  refine o_iloadN X0 hx (hb hby d_prog_28_method_8_code_5) (v := (2 : Int32)) rfl (n := 6) rfl ?_
  refine o_isub X0 hx (hb hby d_prog_28_method_8_code_6) (v := (1 : Int32)) (by decide) (n := 7) rfl ?_
  refine o_imul X0 hx (hb hby d_prog_28_method_8_code_7) (v := (6 : Int32)) (by decide) (n := 8) rfl ?_
  refine o_istoreN X0 hx (hb hby d_prog_28_method_8_code_8) (Ls' := #[.val (.int p0), .val (.int (4 : Int32)), .val (.int (2 : Int32)), .val (.int (6 : Int32))]) rfl (n := 9) rfl ?_
  refine o_iloadN X0 hx (hb hby d_prog_28_method_8_code_9) (v := (2 : Int32)) rfl (n := 10) rfl ?_
  refine o_ifN X0 hx (hb hby d_prog_28_method_8_code_10) (XT.i0_le_f (by decide)) (n := 13) rfl ?_
  refine o_sipush X0 hx (hb hby d_prog_28_method_8_code_13) (v := (128 : Int32)) rfl (n := 16) rfl ?_
  refine o_iloadN X0 hx (hb hby d_prog_28_method_8_code_16) (v := p0) rfl (n := 17) rfl ?_
  refine o_iloadN X0 hx (hb hby d_prog_28_method_8_code_17) (v := (6 : Int32)) rfl (n := 18) rfl ?_
  refine o_iushr X0 hx (hb hby d_prog_28_method_8_code_18) (v := (p0.toUInt32 >>> (6 : UInt32)).toInt32) (congrArg (fun q : UInt32 => (p0.toUInt32 >>> q).toInt32) (show ((6 : Int32) &&& 31).toUInt32 = 6 by decide)) (n := 19) rfl ?_
  refine o_bipush X0 hx (hb hby d_prog_28_method_8_code_19) (v := (63 : Int32)) rfl (n := 21) rfl ?_
  refine o_iand X0 hx (hb hby d_prog_28_method_8_code_21) (v := ((p0.toUInt32 >>> (6 : UInt32)).toInt32 &&& (63 : Int32))) rfl (n := 22) rfl ?_
  refine o_ior X0 hx (hb hby d_prog_28_method_8_code_22) (v := ((128 : Int32) ||| ((p0.toUInt32 >>> (6 : UInt32)).toInt32 &&& (63 : Int32)))) rfl (n := 23) rfl ?_
  exact o_ireturn X0 hx hret hlk (hb hby d_prog_28_method_8_code_23) (by decide) (by decide) e0 ⟨rfl, rfl, rfl⟩
theorem o_ef18 (m : MethodId) (p0 : Int32) : entryFrame m #[(.int p0), (.int (4 : Int32)), (.int (2 : Int32))] 7 = mkF m 0 #[.val (.int p0), .val (.int (4 : Int32)), .val (.int (2 : Int32)), .unset, .unset, .unset, .unset] [] := by first | (simp [entryFrame, mkF, argsToLocals, Value.category]; done) | rfl
set_option maxRecDepth 65536 in
set_option maxHeartbeats 40000000 in
theorem c_ref_4_2 (l : Launch) (Z : State) (a0 : Array Value) (hw : ∀ d ∈ tables_1, d.before a0 Z = true) (p0 : Int32) (h0 : Heap) :
    Does l Z (⟨"com/example/variform/variform/variant/Utf8ByteOfPinLaw", "ref", "(III)I"⟩ : MethodName) method_2_code 7 (some .int) [] ({ frames := 0, cells := 0, slots := 0, locals := 0 } : Room) #[(.int p0), (.int (4 : Int32)), (.int (2 : Int32))] h0 (Pur h0 (.int ((128 : Int32) + ((p0 / (64 : Int32)) % (64 : Int32))))) := by
  refine Does.of (plainFor_of_name o_pn1) ?_
  intro p e s m below meth c T0 hx hby hml hown hnm hret hlk hZ X0 e0
  have hown : s.vm.findClass "com/example/variform/variform/variant/Utf8ByteOfPinLaw" = some m.cls := hown
  have hml : c.maxLocals = 7 := hml
  have hret : meth.sig.returnType = some .int := hret
  refine o_entry (o_ef18 m p0) ?_
  refine o_iloadN X0 hx (hb hby d_method_2_code_0) (v := (4 : Int32)) rfl (n := 1) rfl ?_
  refine o_iconst X0 hx (hb hby d_method_2_code_1) (v := (1 : Int32)) rfl (n := 2) rfl ?_
  refine o_icmpY X0 hx (hb hby d_method_2_code_2) (XT.ii_ne_t (by decide)) (by decide) (n := 7) (by decide) ?_
  refine o_iloadN X0 hx (hb hby d_method_2_code_7) (v := (4 : Int32)) rfl (n := 8) rfl ?_
  refine o_iconst X0 hx (hb hby d_method_2_code_8) (v := (1 : Int32)) rfl (n := 9) rfl ?_
  refine o_isub X0 hx (hb hby d_method_2_code_9) (v := (3 : Int32)) (by decide) (n := 10) rfl ?_
  refine o_iloadN X0 hx (hb hby d_method_2_code_10) (v := (2 : Int32)) rfl (n := 11) rfl ?_
  refine o_isub X0 hx (hb hby d_method_2_code_11) (v := (1 : Int32)) (by decide) (n := 12) rfl ?_
  refine o_istoreN X0 hx (hb hby d_method_2_code_12) (Ls' := #[.val (.int p0), .val (.int (4 : Int32)), .val (.int (2 : Int32)), .val (.int (1 : Int32)), .unset, .unset, .unset]) rfl (n := 13) rfl ?_
  refine o_iloadN X0 hx (hb hby d_method_2_code_13) (v := (1 : Int32)) rfl (n := 14) rfl ?_
  refine o_ifY X0 hx (hb hby d_method_2_code_14) (XT.i0_ne_t (by decide)) (by decide) (n := 21) (by decide) ?_
  refine o_iloadN X0 hx (hb hby d_method_2_code_21) (v := (1 : Int32)) rfl (n := 22) rfl ?_
  refine o_iconst X0 hx (hb hby d_method_2_code_22) (v := (1 : Int32)) rfl (n := 23) rfl ?_
  refine o_icmpN X0 hx (hb hby d_method_2_code_23) (XT.ii_ne_f (by decide)) (n := 26) rfl ?_
  refine o_bipush X0 hx (hb hby d_method_2_code_26) (v := (64 : Int32)) rfl (n := 28) rfl ?_
  refine o_goto X0 hx (hb hby d_method_2_code_28) (by decide) (n := 44) (by decide) ?_
  refine o_istore X0 hx (hb hby d_method_2_code_44) (Ls' := #[.val (.int p0), .val (.int (4 : Int32)), .val (.int (2 : Int32)), .val (.int (1 : Int32)), .val (.int (64 : Int32)), .unset, .unset]) rfl (n := 46) rfl ?_
  refine o_iloadN X0 hx (hb hby d_method_2_code_46) (v := p0) rfl (n := 47) rfl ?_
  refine o_iload X0 hx (hb hby d_method_2_code_47) (v := (64 : Int32)) rfl (n := 49) rfl ?_
  refine o_idiv X0 hx (hb hby d_method_2_code_49) (by decide) (v := (p0 / (64 : Int32))) rfl (n := 50) rfl ?_
  refine o_istore X0 hx (hb hby d_method_2_code_50) (Ls' := #[.val (.int p0), .val (.int (4 : Int32)), .val (.int (2 : Int32)), .val (.int (1 : Int32)), .val (.int (64 : Int32)), .val (.int (p0 / (64 : Int32))), .unset]) rfl (n := 52) rfl ?_
  refine o_iloadN X0 hx (hb hby d_method_2_code_52) (v := (2 : Int32)) rfl (n := 53) rfl ?_
  refine o_ifY X0 hx (hb hby d_method_2_code_53) (XT.i0_ne_t (by decide)) (by decide) (n := 89) (by decide) ?_
  refine o_sipush X0 hx (hb hby d_method_2_code_89) (v := (128 : Int32)) rfl (n := 92) rfl ?_
  refine o_iload X0 hx (hb hby d_method_2_code_92) (v := (p0 / (64 : Int32))) rfl (n := 94) rfl ?_
  refine o_bipush X0 hx (hb hby d_method_2_code_94) (v := (64 : Int32)) rfl (n := 96) rfl ?_
  refine o_irem X0 hx (hb hby d_method_2_code_96) (by decide) (v := ((p0 / (64 : Int32)) % (64 : Int32))) rfl (n := 97) rfl ?_
  refine o_iadd X0 hx (hb hby d_method_2_code_97) (v := ((128 : Int32) + ((p0 / (64 : Int32)) % (64 : Int32)))) rfl (n := 98) rfl ?_
  exact o_ireturn X0 hx hret hlk (hb hby d_method_2_code_98) (by decide) (by decide) e0 ⟨rfl, rfl, rfl⟩
theorem o_ef19 (m : MethodId) (p0 : Int32) : entryFrame m #[(.int p0), (.int (4 : Int32)), (.int (3 : Int32))] 4 = mkF m 0 #[.val (.int p0), .val (.int (4 : Int32)), .val (.int (3 : Int32)), .unset] [] := by first | (simp [entryFrame, mkF, argsToLocals, Value.category]; done) | rfl
set_option maxRecDepth 65536 in
set_option maxHeartbeats 40000000 in
theorem c_byteOf_4_3 (l : Launch) (Z : State) (a0 : Array Value) (hw : ∀ d ∈ tables_1, d.before a0 Z = true) (p0 : Int32) (h0 : Heap) :
    Does l Z (⟨"com/example/variform/variform/variant/Utf8", "byteOf", "(III)I"⟩ : MethodName) prog_28_method_8_code 4 (some .int) [] ({ frames := 0, cells := 0, slots := 0, locals := 0 } : Room) #[(.int p0), (.int (4 : Int32)), (.int (3 : Int32))] h0 (Pur h0 (.int ((128 : Int32) ||| ((p0.toUInt32 >>> (0 : UInt32)).toInt32 &&& (63 : Int32))))) := by
  refine Does.of (plainFor_of_name o_pn0) ?_
  intro p e s m below meth c T0 hx hby hml hown hnm hret hlk hZ X0 e0
  have hown : s.vm.findClass "com/example/variform/variform/variant/Utf8" = some m.cls := hown
  have hml : c.maxLocals = 4 := hml
  have hret : meth.sig.returnType = some .int := hret
  refine o_entry (o_ef19 m p0) ?_
  refine o_bipush X0 hx (hb hby d_prog_28_method_8_code_0) (v := (6 : Int32)) rfl (n := 2) rfl ?_
  refine o_iloadN X0 hx (hb hby d_prog_28_method_8_code_2) (v := (4 : Int32)) rfl (n := 3) rfl ?_
  refine o_iconst X0 hx (hb hby d_prog_28_method_8_code_3) (v := (1 : Int32)) rfl (n := 4) rfl ?_
  refine o_isub X0 hx (hb hby d_prog_28_method_8_code_4) (v := (3 : Int32)) (by decide) (n := 5) rfl ?_
  refine o_iloadN X0 hx (hb hby d_prog_28_method_8_code_5) (v := (3 : Int32)) rfl (n := 6) rfl ?_
  refine o_isub X0 hx (hb hby d_prog_28_method_8_code_6) (v := (0 : Int32)) (by decide) (n := 7) rfl ?_
  refine o_imul X0 hx (hb hby d_prog_28_method_8_code_7) (v := (0 : Int32)) (by decide) (n := 8) rfl ?_
  refine o_istoreN X0 hx (hb hby d_prog_28_method_8_code_8) (Ls' := #[.val (.int p0), .val (.int (4 : Int32)), .val (.int (3 : Int32)), .val (.int (0 : Int32))]) rfl (n := 9) rfl ?_
  refine o_iloadN X0 hx (hb hby d_prog_28_method_8_code_9) (v := (3 : Int32)) rfl (n := 10) rfl ?_
  refine o_ifN X0 hx (hb hby d_prog_28_method_8_code_10) (XT.i0_le_f (by decide)) (n := 13) rfl ?_
  refine o_sipush X0 hx (hb hby d_prog_28_method_8_code_13) (v := (128 : Int32)) rfl (n := 16) rfl ?_
  refine o_iloadN X0 hx (hb hby d_prog_28_method_8_code_16) (v := p0) rfl (n := 17) rfl ?_
  refine o_iloadN X0 hx (hb hby d_prog_28_method_8_code_17) (v := (0 : Int32)) rfl (n := 18) rfl ?_
  refine o_iushr X0 hx (hb hby d_prog_28_method_8_code_18) (v := (p0.toUInt32 >>> (0 : UInt32)).toInt32) (congrArg (fun q : UInt32 => (p0.toUInt32 >>> q).toInt32) (show ((0 : Int32) &&& 31).toUInt32 = 0 by decide)) (n := 19) rfl ?_
  refine o_bipush X0 hx (hb hby d_prog_28_method_8_code_19) (v := (63 : Int32)) rfl (n := 21) rfl ?_
  refine o_iand X0 hx (hb hby d_prog_28_method_8_code_21) (v := ((p0.toUInt32 >>> (0 : UInt32)).toInt32 &&& (63 : Int32))) rfl (n := 22) rfl ?_
  refine o_ior X0 hx (hb hby d_prog_28_method_8_code_22) (v := ((128 : Int32) ||| ((p0.toUInt32 >>> (0 : UInt32)).toInt32 &&& (63 : Int32)))) rfl (n := 23) rfl ?_
  exact o_ireturn X0 hx hret hlk (hb hby d_prog_28_method_8_code_23) (by decide) (by decide) e0 ⟨rfl, rfl, rfl⟩
theorem o_ef20 (m : MethodId) (p0 : Int32) : entryFrame m #[(.int p0), (.int (4 : Int32)), (.int (3 : Int32))] 7 = mkF m 0 #[.val (.int p0), .val (.int (4 : Int32)), .val (.int (3 : Int32)), .unset, .unset, .unset, .unset] [] := by first | (simp [entryFrame, mkF, argsToLocals, Value.category]; done) | rfl
set_option maxRecDepth 65536 in
set_option maxHeartbeats 40000000 in
theorem c_ref_4_3 (l : Launch) (Z : State) (a0 : Array Value) (hw : ∀ d ∈ tables_1, d.before a0 Z = true) (p0 : Int32) (h0 : Heap) :
    Does l Z (⟨"com/example/variform/variform/variant/Utf8ByteOfPinLaw", "ref", "(III)I"⟩ : MethodName) method_2_code 7 (some .int) [] ({ frames := 0, cells := 0, slots := 0, locals := 0 } : Room) #[(.int p0), (.int (4 : Int32)), (.int (3 : Int32))] h0 (Pur h0 (.int ((128 : Int32) + ((p0 / (1 : Int32)) % (64 : Int32))))) := by
  refine Does.of (plainFor_of_name o_pn1) ?_
  intro p e s m below meth c T0 hx hby hml hown hnm hret hlk hZ X0 e0
  have hown : s.vm.findClass "com/example/variform/variform/variant/Utf8ByteOfPinLaw" = some m.cls := hown
  have hml : c.maxLocals = 7 := hml
  have hret : meth.sig.returnType = some .int := hret
  refine o_entry (o_ef20 m p0) ?_
  refine o_iloadN X0 hx (hb hby d_method_2_code_0) (v := (4 : Int32)) rfl (n := 1) rfl ?_
  refine o_iconst X0 hx (hb hby d_method_2_code_1) (v := (1 : Int32)) rfl (n := 2) rfl ?_
  refine o_icmpY X0 hx (hb hby d_method_2_code_2) (XT.ii_ne_t (by decide)) (by decide) (n := 7) (by decide) ?_
  refine o_iloadN X0 hx (hb hby d_method_2_code_7) (v := (4 : Int32)) rfl (n := 8) rfl ?_
  refine o_iconst X0 hx (hb hby d_method_2_code_8) (v := (1 : Int32)) rfl (n := 9) rfl ?_
  refine o_isub X0 hx (hb hby d_method_2_code_9) (v := (3 : Int32)) (by decide) (n := 10) rfl ?_
  refine o_iloadN X0 hx (hb hby d_method_2_code_10) (v := (3 : Int32)) rfl (n := 11) rfl ?_
  refine o_isub X0 hx (hb hby d_method_2_code_11) (v := (0 : Int32)) (by decide) (n := 12) rfl ?_
  refine o_istoreN X0 hx (hb hby d_method_2_code_12) (Ls' := #[.val (.int p0), .val (.int (4 : Int32)), .val (.int (3 : Int32)), .val (.int (0 : Int32)), .unset, .unset, .unset]) rfl (n := 13) rfl ?_
  refine o_iloadN X0 hx (hb hby d_method_2_code_13) (v := (0 : Int32)) rfl (n := 14) rfl ?_
  refine o_ifN X0 hx (hb hby d_method_2_code_14) (XT.i0_ne_f (by decide)) (n := 17) rfl ?_
  refine o_iconst X0 hx (hb hby d_method_2_code_17) (v := (1 : Int32)) rfl (n := 18) rfl ?_
  refine o_goto X0 hx (hb hby d_method_2_code_18) (by decide) (n := 44) (by decide) ?_
  refine o_istore X0 hx (hb hby d_method_2_code_44) (Ls' := #[.val (.int p0), .val (.int (4 : Int32)), .val (.int (3 : Int32)), .val (.int (0 : Int32)), .val (.int (1 : Int32)), .unset, .unset]) rfl (n := 46) rfl ?_
  refine o_iloadN X0 hx (hb hby d_method_2_code_46) (v := p0) rfl (n := 47) rfl ?_
  refine o_iload X0 hx (hb hby d_method_2_code_47) (v := (1 : Int32)) rfl (n := 49) rfl ?_
  refine o_idiv X0 hx (hb hby d_method_2_code_49) (by decide) (v := (p0 / (1 : Int32))) rfl (n := 50) rfl ?_
  refine o_istore X0 hx (hb hby d_method_2_code_50) (Ls' := #[.val (.int p0), .val (.int (4 : Int32)), .val (.int (3 : Int32)), .val (.int (0 : Int32)), .val (.int (1 : Int32)), .val (.int (p0 / (1 : Int32))), .unset]) rfl (n := 52) rfl ?_
  refine o_iloadN X0 hx (hb hby d_method_2_code_52) (v := (3 : Int32)) rfl (n := 53) rfl ?_
  refine o_ifY X0 hx (hb hby d_method_2_code_53) (XT.i0_ne_t (by decide)) (by decide) (n := 89) (by decide) ?_
  refine o_sipush X0 hx (hb hby d_method_2_code_89) (v := (128 : Int32)) rfl (n := 92) rfl ?_
  refine o_iload X0 hx (hb hby d_method_2_code_92) (v := (p0 / (1 : Int32))) rfl (n := 94) rfl ?_
  refine o_bipush X0 hx (hb hby d_method_2_code_94) (v := (64 : Int32)) rfl (n := 96) rfl ?_
  refine o_irem X0 hx (hb hby d_method_2_code_96) (by decide) (v := ((p0 / (1 : Int32)) % (64 : Int32))) rfl (n := 97) rfl ?_
  refine o_iadd X0 hx (hb hby d_method_2_code_97) (v := ((128 : Int32) + ((p0 / (1 : Int32)) % (64 : Int32)))) rfl (n := 98) rfl ?_
  exact o_ireturn X0 hx hret hlk (hb hby d_method_2_code_98) (by decide) (by decide) e0 ⟨rfl, rfl, rfl⟩
theorem o_same_1_0 (p0 : Int32) (h : 0 ≤ p0.toInt ∧ p0.toInt < 128) : p0 = p0 := rfl
theorem o_same_2_0 (p0 : Int32) (h : 128 ≤ p0.toInt ∧ p0.toInt < 2048) : ((192 : Int32) ||| (p0.toUInt32 >>> (6 : UInt32)).toInt32) = ((192 : Int32) + (p0 / (64 : Int32))) := by
  apply Int32.toInt_inj.mp
  have a := c_iushr p0 (6 : Int32) 6 (by decide) (by decide)
  have a' : (p0.toUInt32 >>> (6 : UInt32)).toInt32.toInt = (p0.toInt % 4294967296) / (2 ^ 6 : Nat) := a
  have d := (c_idiv p0 (64 : Int32) 64 rfl (by decide)).1 (by omega)
  have o := c_or (192 : Int32) (p0.toUInt32 >>> (6 : UInt32)).toInt32 6 (by decide) 64 (by decide) (by decide) (by omega) (by omega)
  have g := c_iadd (192 : Int32) (p0 / (64 : Int32))
  have k1 : (192 : Int32).toInt = 192 := rfl
  have r1 := Int32.le_toInt ((192 : Int32) ||| (p0.toUInt32 >>> (6 : UInt32)).toInt32); have r2 := Int32.toInt_lt ((192 : Int32) ||| (p0.toUInt32 >>> (6 : UInt32)).toInt32)
  have r3 := Int32.le_toInt ((192 : Int32) + p0 / (64 : Int32)); have r4 := Int32.toInt_lt ((192 : Int32) + p0 / (64 : Int32))
  omega
theorem o_same_2_1 (p0 : Int32) (h : 128 ≤ p0.toInt ∧ p0.toInt < 2048) : ((128 : Int32) ||| ((p0.toUInt32 >>> (0 : UInt32)).toInt32 &&& (63 : Int32))) = ((128 : Int32) + ((p0 / (1 : Int32)) % (64 : Int32))) := by
  apply Int32.toInt_inj.mp
  have a0 : (p0.toUInt32 >>> (0 : UInt32)).toInt32 = p0 := by simp
  rw [a0]
  have b := c_mask p0 63 6 (by decide) (by decide)
  have d := (c_idiv p0 (1 : Int32) 1 rfl (by decide)).1 (by omega)
  have f := (c_irem (p0 / (1 : Int32)) (64 : Int32) 64 rfl).1 (by omega)
  have o := c_or (128 : Int32) (p0 &&& 63) 6 (by decide) 64 (by decide) (by decide) (by omega) (by omega)
  have g := c_iadd (128 : Int32) (p0 / (1 : Int32) % (64 : Int32))
  have k1 : (128 : Int32).toInt = 128 := rfl
  have r1 := Int32.le_toInt ((128 : Int32) ||| (p0 &&& 63)); have r2 := Int32.toInt_lt ((128 : Int32) ||| (p0 &&& 63))
  have r3 := Int32.le_toInt ((128 : Int32) + p0 / (1 : Int32) % (64 : Int32)); have r4 := Int32.toInt_lt ((128 : Int32) + p0 / (1 : Int32) % (64 : Int32))
  omega
theorem o_same_3_0 (p0 : Int32) (h : 2048 ≤ p0.toInt ∧ p0.toInt < 65536) : ((224 : Int32) ||| (p0.toUInt32 >>> (12 : UInt32)).toInt32) = ((224 : Int32) + (p0 / (4096 : Int32))) := by
  apply Int32.toInt_inj.mp
  have a := c_iushr p0 (12 : Int32) 12 (by decide) (by decide)
  have a' : (p0.toUInt32 >>> (12 : UInt32)).toInt32.toInt = (p0.toInt % 4294967296) / (2 ^ 12 : Nat) := a
  have d := (c_idiv p0 (4096 : Int32) 4096 rfl (by decide)).1 (by omega)
  have o := c_or (224 : Int32) (p0.toUInt32 >>> (12 : UInt32)).toInt32 5 (by decide) 32 (by decide) (by decide) (by omega) (by omega)
  have g := c_iadd (224 : Int32) (p0 / (4096 : Int32))
  have k1 : (224 : Int32).toInt = 224 := rfl
  have r1 := Int32.le_toInt ((224 : Int32) ||| (p0.toUInt32 >>> (12 : UInt32)).toInt32); have r2 := Int32.toInt_lt ((224 : Int32) ||| (p0.toUInt32 >>> (12 : UInt32)).toInt32)
  have r3 := Int32.le_toInt ((224 : Int32) + p0 / (4096 : Int32)); have r4 := Int32.toInt_lt ((224 : Int32) + p0 / (4096 : Int32))
  omega
theorem o_same_3_1 (p0 : Int32) (h : 2048 ≤ p0.toInt ∧ p0.toInt < 65536) : ((128 : Int32) ||| ((p0.toUInt32 >>> (6 : UInt32)).toInt32 &&& (63 : Int32))) = ((128 : Int32) + ((p0 / (64 : Int32)) % (64 : Int32))) := by
  apply Int32.toInt_inj.mp
  have a := c_iushr p0 (6 : Int32) 6 (by decide) (by decide)
  have a' : (p0.toUInt32 >>> (6 : UInt32)).toInt32.toInt = (p0.toInt % 4294967296) / (2 ^ 6 : Nat) := a
  have b := c_mask (p0.toUInt32 >>> (6 : UInt32)).toInt32 63 6 (by decide) (by decide)
  have d := (c_idiv p0 (64 : Int32) 64 rfl (by decide)).1 (by omega)
  have f := (c_irem (p0 / (64 : Int32)) (64 : Int32) 64 rfl).1 (by omega)
  have o := c_or (128 : Int32) ((p0.toUInt32 >>> (6 : UInt32)).toInt32 &&& 63) 6 (by decide) 64 (by decide) (by decide) (by omega) (by omega)
  have g := c_iadd (128 : Int32) (p0 / (64 : Int32) % (64 : Int32))
  have k1 : (128 : Int32).toInt = 128 := rfl
  have r1 := Int32.le_toInt ((128 : Int32) ||| ((p0.toUInt32 >>> (6 : UInt32)).toInt32 &&& 63)); have r2 := Int32.toInt_lt ((128 : Int32) ||| ((p0.toUInt32 >>> (6 : UInt32)).toInt32 &&& 63))
  have r3 := Int32.le_toInt ((128 : Int32) + p0 / (64 : Int32) % (64 : Int32)); have r4 := Int32.toInt_lt ((128 : Int32) + p0 / (64 : Int32) % (64 : Int32))
  omega
theorem o_same_3_2 (p0 : Int32) (h : 2048 ≤ p0.toInt ∧ p0.toInt < 65536) : ((128 : Int32) ||| ((p0.toUInt32 >>> (0 : UInt32)).toInt32 &&& (63 : Int32))) = ((128 : Int32) + ((p0 / (1 : Int32)) % (64 : Int32))) := by
  apply Int32.toInt_inj.mp
  have a0 : (p0.toUInt32 >>> (0 : UInt32)).toInt32 = p0 := by simp
  rw [a0]
  have b := c_mask p0 63 6 (by decide) (by decide)
  have d := (c_idiv p0 (1 : Int32) 1 rfl (by decide)).1 (by omega)
  have f := (c_irem (p0 / (1 : Int32)) (64 : Int32) 64 rfl).1 (by omega)
  have o := c_or (128 : Int32) (p0 &&& 63) 6 (by decide) 64 (by decide) (by decide) (by omega) (by omega)
  have g := c_iadd (128 : Int32) (p0 / (1 : Int32) % (64 : Int32))
  have k1 : (128 : Int32).toInt = 128 := rfl
  have r1 := Int32.le_toInt ((128 : Int32) ||| (p0 &&& 63)); have r2 := Int32.toInt_lt ((128 : Int32) ||| (p0 &&& 63))
  have r3 := Int32.le_toInt ((128 : Int32) + p0 / (1 : Int32) % (64 : Int32)); have r4 := Int32.toInt_lt ((128 : Int32) + p0 / (1 : Int32) % (64 : Int32))
  omega
theorem o_same_4_0 (p0 : Int32) (h : 65536 ≤ p0.toInt ∧ p0.toInt < 1114112) : ((240 : Int32) ||| (p0.toUInt32 >>> (18 : UInt32)).toInt32) = ((240 : Int32) + (p0 / (262144 : Int32))) := by
  apply Int32.toInt_inj.mp
  have a := c_iushr p0 (18 : Int32) 18 (by decide) (by decide)
  have a' : (p0.toUInt32 >>> (18 : UInt32)).toInt32.toInt = (p0.toInt % 4294967296) / (2 ^ 18 : Nat) := a
  have d := (c_idiv p0 (262144 : Int32) 262144 rfl (by decide)).1 (by omega)
  have o := c_or (240 : Int32) (p0.toUInt32 >>> (18 : UInt32)).toInt32 4 (by decide) 16 (by decide) (by decide) (by omega) (by omega)
  have g := c_iadd (240 : Int32) (p0 / (262144 : Int32))
  have k1 : (240 : Int32).toInt = 240 := rfl
  have r1 := Int32.le_toInt ((240 : Int32) ||| (p0.toUInt32 >>> (18 : UInt32)).toInt32); have r2 := Int32.toInt_lt ((240 : Int32) ||| (p0.toUInt32 >>> (18 : UInt32)).toInt32)
  have r3 := Int32.le_toInt ((240 : Int32) + p0 / (262144 : Int32)); have r4 := Int32.toInt_lt ((240 : Int32) + p0 / (262144 : Int32))
  omega
theorem o_same_4_1 (p0 : Int32) (h : 65536 ≤ p0.toInt ∧ p0.toInt < 1114112) : ((128 : Int32) ||| ((p0.toUInt32 >>> (12 : UInt32)).toInt32 &&& (63 : Int32))) = ((128 : Int32) + ((p0 / (4096 : Int32)) % (64 : Int32))) := by
  apply Int32.toInt_inj.mp
  have a := c_iushr p0 (12 : Int32) 12 (by decide) (by decide)
  have a' : (p0.toUInt32 >>> (12 : UInt32)).toInt32.toInt = (p0.toInt % 4294967296) / (2 ^ 12 : Nat) := a
  have b := c_mask (p0.toUInt32 >>> (12 : UInt32)).toInt32 63 6 (by decide) (by decide)
  have d := (c_idiv p0 (4096 : Int32) 4096 rfl (by decide)).1 (by omega)
  have f := (c_irem (p0 / (4096 : Int32)) (64 : Int32) 64 rfl).1 (by omega)
  have o := c_or (128 : Int32) ((p0.toUInt32 >>> (12 : UInt32)).toInt32 &&& 63) 6 (by decide) 64 (by decide) (by decide) (by omega) (by omega)
  have g := c_iadd (128 : Int32) (p0 / (4096 : Int32) % (64 : Int32))
  have k1 : (128 : Int32).toInt = 128 := rfl
  have r1 := Int32.le_toInt ((128 : Int32) ||| ((p0.toUInt32 >>> (12 : UInt32)).toInt32 &&& 63)); have r2 := Int32.toInt_lt ((128 : Int32) ||| ((p0.toUInt32 >>> (12 : UInt32)).toInt32 &&& 63))
  have r3 := Int32.le_toInt ((128 : Int32) + p0 / (4096 : Int32) % (64 : Int32)); have r4 := Int32.toInt_lt ((128 : Int32) + p0 / (4096 : Int32) % (64 : Int32))
  omega
theorem o_same_4_2 (p0 : Int32) (h : 65536 ≤ p0.toInt ∧ p0.toInt < 1114112) : ((128 : Int32) ||| ((p0.toUInt32 >>> (6 : UInt32)).toInt32 &&& (63 : Int32))) = ((128 : Int32) + ((p0 / (64 : Int32)) % (64 : Int32))) := by
  apply Int32.toInt_inj.mp
  have a := c_iushr p0 (6 : Int32) 6 (by decide) (by decide)
  have a' : (p0.toUInt32 >>> (6 : UInt32)).toInt32.toInt = (p0.toInt % 4294967296) / (2 ^ 6 : Nat) := a
  have b := c_mask (p0.toUInt32 >>> (6 : UInt32)).toInt32 63 6 (by decide) (by decide)
  have d := (c_idiv p0 (64 : Int32) 64 rfl (by decide)).1 (by omega)
  have f := (c_irem (p0 / (64 : Int32)) (64 : Int32) 64 rfl).1 (by omega)
  have o := c_or (128 : Int32) ((p0.toUInt32 >>> (6 : UInt32)).toInt32 &&& 63) 6 (by decide) 64 (by decide) (by decide) (by omega) (by omega)
  have g := c_iadd (128 : Int32) (p0 / (64 : Int32) % (64 : Int32))
  have k1 : (128 : Int32).toInt = 128 := rfl
  have r1 := Int32.le_toInt ((128 : Int32) ||| ((p0.toUInt32 >>> (6 : UInt32)).toInt32 &&& 63)); have r2 := Int32.toInt_lt ((128 : Int32) ||| ((p0.toUInt32 >>> (6 : UInt32)).toInt32 &&& 63))
  have r3 := Int32.le_toInt ((128 : Int32) + p0 / (64 : Int32) % (64 : Int32)); have r4 := Int32.toInt_lt ((128 : Int32) + p0 / (64 : Int32) % (64 : Int32))
  omega
theorem o_same_4_3 (p0 : Int32) (h : 65536 ≤ p0.toInt ∧ p0.toInt < 1114112) : ((128 : Int32) ||| ((p0.toUInt32 >>> (0 : UInt32)).toInt32 &&& (63 : Int32))) = ((128 : Int32) + ((p0 / (1 : Int32)) % (64 : Int32))) := by
  apply Int32.toInt_inj.mp
  have a0 : (p0.toUInt32 >>> (0 : UInt32)).toInt32 = p0 := by simp
  rw [a0]
  have b := c_mask p0 63 6 (by decide) (by decide)
  have d := (c_idiv p0 (1 : Int32) 1 rfl (by decide)).1 (by omega)
  have f := (c_irem (p0 / (1 : Int32)) (64 : Int32) 64 rfl).1 (by omega)
  have o := c_or (128 : Int32) (p0 &&& 63) 6 (by decide) 64 (by decide) (by decide) (by omega) (by omega)
  have g := c_iadd (128 : Int32) (p0 / (1 : Int32) % (64 : Int32))
  have k1 : (128 : Int32).toInt = 128 := rfl
  have r1 := Int32.le_toInt ((128 : Int32) ||| (p0 &&& 63)); have r2 := Int32.toInt_lt ((128 : Int32) ||| (p0 &&& 63))
  have r3 := Int32.le_toInt ((128 : Int32) + p0 / (1 : Int32) % (64 : Int32)); have r4 := Int32.toInt_lt ((128 : Int32) + p0 / (1 : Int32) % (64 : Int32))
  omega
theorem d_method_3_code_0 : decode method_3_code 0 = .ok (.iload_n 2, 1) := by decide +kernel
theorem d_method_3_code_1 : decode method_3_code 1 = .ok (.iload_n 1, 1) := by decide +kernel
theorem d_method_3_code_2 : decode method_3_code 2 = .ok (.if_icmp .lt 5, 3) := by decide +kernel
theorem d_method_3_code_7 : decode method_3_code 7 = .ok (.iload_n 0, 1) := by decide +kernel
theorem d_method_3_code_8 : decode method_3_code 8 = .ok (.iload_n 1, 1) := by decide +kernel
theorem d_method_3_code_9 : decode method_3_code 9 = .ok (.iload_n 2, 1) := by decide +kernel
theorem d_method_3_code_10 : decode method_3_code 10 = .ok (.invokestatic 8, 3) := by decide +kernel
theorem o_pd0 : parseMethodDescriptor "(III)I" = some ⟨[.int, .int, .int], some .int⟩ := by decide +kernel
theorem d_method_3_code_13 : decode method_3_code 13 = .ok (.iload_n 0, 1) := by decide +kernel
theorem d_method_3_code_14 : decode method_3_code 14 = .ok (.iload_n 1, 1) := by decide +kernel
theorem d_method_3_code_15 : decode method_3_code 15 = .ok (.iload_n 2, 1) := by decide +kernel
theorem d_method_3_code_16 : decode method_3_code 16 = .ok (.invokestatic 14, 3) := by decide +kernel
theorem d_method_3_code_19 : decode method_3_code 19 = .ok (.if_icmp .ne 7, 3) := by decide +kernel
theorem d_method_3_code_22 : decode method_3_code 22 = .ok (.iconst 1, 1) := by decide +kernel
theorem d_method_3_code_23 : decode method_3_code 23 = .ok (.goto 4, 3) := by decide +kernel
theorem d_method_3_code_27 : decode method_3_code 27 = .ok (.ireturn, 1) := by decide +kernel
theorem o_ef21 (m : MethodId) (p0 : Int32) : entryFrame m #[(.int p0), (.int (1 : Int32)), (.int (0 : Int32))] 3 = mkF m 0 #[.val (.int p0), .val (.int (1 : Int32)), .val (.int (0 : Int32))] [] := by first | (simp [entryFrame, mkF, argsToLocals, Value.category]; done) | rfl
set_option maxRecDepth 65536 in
set_option maxHeartbeats 40000000 in
theorem c_check_1_0 (l : Launch) (Z : State) (a0 : Array Value) (hw : ∀ d ∈ tables_1, d.before a0 Z = true) (p0 : Int32) (h0 : Heap) (h : 0 ≤ p0.toInt ∧ p0.toInt < 128) :
    Does l Z (⟨"com/example/variform/variform/variant/Utf8ByteOfPinLaw", "check", "(III)Z"⟩ : MethodName) method_3_code 3 (some .boolean) [] ({ frames := 1, cells := 0, slots := 0, locals := 19 } : Room) #[(.int p0), (.int (1 : Int32)), (.int (0 : Int32))] h0 (Pur h0 (.int 1)) := by
  refine Does.of (plainFor_of_name o_pn1) ?_
  intro p e s m below meth c T0 hx hby hml hown hnm hret hlk hZ X0 e0
  have hown : s.vm.findClass "com/example/variform/variform/variant/Utf8ByteOfPinLaw" = some m.cls := hown
  have hml : c.maxLocals = 3 := hml
  have hret : meth.sig.returnType = some .boolean := hret
  refine o_entry (o_ef21 m p0) ?_
  refine o_iloadN X0 hx (hb hby d_method_3_code_0) (v := (0 : Int32)) rfl (n := 1) rfl ?_
  refine o_iloadN X0 hx (hb hby d_method_3_code_1) (v := (1 : Int32)) rfl (n := 2) rfl ?_
  refine o_icmpY X0 hx (hb hby d_method_3_code_2) (XT.ii_lt_t (by decide)) (by decide) (n := 7) (by decide) ?_
  refine o_iloadN X0 hx (hb hby d_method_3_code_7) (v := p0) rfl (n := 8) rfl ?_
  refine o_iloadN X0 hx (hb hby d_method_3_code_8) (v := (1 : Int32)) rfl (n := 9) rfl ?_
  refine o_iloadN X0 hx (hb hby d_method_3_code_9) (v := (0 : Int32)) rfl (n := 10) rfl ?_
  refine o_callS X0 hx hZ hown (hw _ (List.mem_of_getElem? (i := 5) rfl)) (hw _ (List.mem_of_getElem? (i := 6) rfl)) (hw _ (List.mem_of_getElem? (i := 7) rfl)) (hw _ (List.mem_of_getElem? (i := 8) rfl)) (by decide) e0 (argsL := [(.int p0), (.int (1 : Int32)), (.int (0 : Int32))]) (rest := []) (c_byteOf_1_0 l Z a0 hw p0 h0) 0 (by decide) (by decide) (by decide) (by decide) (by rw [hml]; rfl) (lenOf o_pd0 rfl) rfl (Nat.le_of_eq rfl) (hb hby d_method_3_code_10) (n := 13) rfl ?_
  intro v1 T1 L1 X1 q1
  obtain ⟨rfl, e1, rfl⟩ := q1
  show Goes p e below s _ _ _ (T1.setTop (mkF m 13 #[.val (.int p0), .val (.int (1 : Int32)), .val (.int (0 : Int32))] [(.int p0)]))
  refine o_iloadN X1 hx (hb hby d_method_3_code_13) (v := p0) rfl (n := 14) rfl ?_
  refine o_iloadN X1 hx (hb hby d_method_3_code_14) (v := (1 : Int32)) rfl (n := 15) rfl ?_
  refine o_iloadN X1 hx (hb hby d_method_3_code_15) (v := (0 : Int32)) rfl (n := 16) rfl ?_
  refine o_callS X1 hx hZ hown (hw _ (List.mem_of_getElem? (i := 9) rfl)) (hw _ (List.mem_of_getElem? (i := 10) rfl)) (hw _ (List.mem_of_getElem? (i := 3) rfl)) (hw _ (List.mem_of_getElem? (i := 11) rfl)) (by decide) e1 (argsL := [(.int p0), (.int (1 : Int32)), (.int (0 : Int32))]) (rest := [(.int p0)]) (c_ref_1_0 l Z a0 hw p0 h0) 1 (by decide) (by decide) (by decide) (by decide) (by rw [hml]; rfl) (lenOf o_pd0 rfl) rfl (Nat.le_of_eq rfl) (hb hby d_method_3_code_16) (n := 19) rfl ?_
  intro v2 T2 L2 X2 q2
  obtain ⟨rfl, e2, rfl⟩ := q2
  show Goes p e below s _ _ _ (T2.setTop (mkF m 19 #[.val (.int p0), .val (.int (1 : Int32)), .val (.int (0 : Int32))] [(.int p0), (.int p0)]))
  refine o_icmpN X2 hx (hb hby d_method_3_code_19) (XT.ii_ne_f (o_same_1_0 p0 h)) (n := 22) rfl ?_
  refine o_iconst X2 hx (hb hby d_method_3_code_22) (v := (1 : Int32)) rfl (n := 23) rfl ?_
  refine o_goto X2 hx (hb hby d_method_3_code_23) (by decide) (n := 27) (by decide) ?_
  exact o_nreturn X2 hx hret hlk (t := .boolean) (by simp) (hb hby d_method_3_code_27) (by decide) (by decide) e2 ⟨rfl, rfl, rfl⟩
theorem d_method_3_code_5 : decode method_3_code 5 = .ok (.iconst 1, 1) := by decide +kernel
theorem d_method_3_code_6 : decode method_3_code 6 = .ok (.ireturn, 1) := by decide +kernel
theorem o_ef22 (m : MethodId) (p0 : Int32) : entryFrame m #[(.int p0), (.int (1 : Int32)), (.int (1 : Int32))] 3 = mkF m 0 #[.val (.int p0), .val (.int (1 : Int32)), .val (.int (1 : Int32))] [] := by first | (simp [entryFrame, mkF, argsToLocals, Value.category]; done) | rfl
set_option maxRecDepth 65536 in
set_option maxHeartbeats 40000000 in
theorem c_check_1_1 (l : Launch) (Z : State) (a0 : Array Value) (hw : ∀ d ∈ tables_1, d.before a0 Z = true) (p0 : Int32) (h0 : Heap) (h : 0 ≤ p0.toInt ∧ p0.toInt < 128) :
    Does l Z (⟨"com/example/variform/variform/variant/Utf8ByteOfPinLaw", "check", "(III)Z"⟩ : MethodName) method_3_code 3 (some .boolean) [] ({ frames := 0, cells := 0, slots := 0, locals := 0 } : Room) #[(.int p0), (.int (1 : Int32)), (.int (1 : Int32))] h0 (Pur h0 (.int 1)) := by
  refine Does.of (plainFor_of_name o_pn1) ?_
  intro p e s m below meth c T0 hx hby hml hown hnm hret hlk hZ X0 e0
  have hown : s.vm.findClass "com/example/variform/variform/variant/Utf8ByteOfPinLaw" = some m.cls := hown
  have hml : c.maxLocals = 3 := hml
  have hret : meth.sig.returnType = some .boolean := hret
  refine o_entry (o_ef22 m p0) ?_
  refine o_iloadN X0 hx (hb hby d_method_3_code_0) (v := (1 : Int32)) rfl (n := 1) rfl ?_
  refine o_iloadN X0 hx (hb hby d_method_3_code_1) (v := (1 : Int32)) rfl (n := 2) rfl ?_
  refine o_icmpN X0 hx (hb hby d_method_3_code_2) (XT.ii_lt_f (by decide)) (n := 5) rfl ?_
  refine o_iconst X0 hx (hb hby d_method_3_code_5) (v := (1 : Int32)) rfl (n := 6) rfl ?_
  exact o_nreturn X0 hx hret hlk (t := .boolean) (by simp) (hb hby d_method_3_code_6) (by decide) (by decide) e0 ⟨rfl, rfl, rfl⟩
theorem o_ef23 (m : MethodId) (p0 : Int32) : entryFrame m #[(.int p0), (.int (1 : Int32)), (.int (2 : Int32))] 3 = mkF m 0 #[.val (.int p0), .val (.int (1 : Int32)), .val (.int (2 : Int32))] [] := by first | (simp [entryFrame, mkF, argsToLocals, Value.category]; done) | rfl
set_option maxRecDepth 65536 in
set_option maxHeartbeats 40000000 in
theorem c_check_1_2 (l : Launch) (Z : State) (a0 : Array Value) (hw : ∀ d ∈ tables_1, d.before a0 Z = true) (p0 : Int32) (h0 : Heap) (h : 0 ≤ p0.toInt ∧ p0.toInt < 128) :
    Does l Z (⟨"com/example/variform/variform/variant/Utf8ByteOfPinLaw", "check", "(III)Z"⟩ : MethodName) method_3_code 3 (some .boolean) [] ({ frames := 0, cells := 0, slots := 0, locals := 0 } : Room) #[(.int p0), (.int (1 : Int32)), (.int (2 : Int32))] h0 (Pur h0 (.int 1)) := by
  refine Does.of (plainFor_of_name o_pn1) ?_
  intro p e s m below meth c T0 hx hby hml hown hnm hret hlk hZ X0 e0
  have hown : s.vm.findClass "com/example/variform/variform/variant/Utf8ByteOfPinLaw" = some m.cls := hown
  have hml : c.maxLocals = 3 := hml
  have hret : meth.sig.returnType = some .boolean := hret
  refine o_entry (o_ef23 m p0) ?_
  refine o_iloadN X0 hx (hb hby d_method_3_code_0) (v := (2 : Int32)) rfl (n := 1) rfl ?_
  refine o_iloadN X0 hx (hb hby d_method_3_code_1) (v := (1 : Int32)) rfl (n := 2) rfl ?_
  refine o_icmpN X0 hx (hb hby d_method_3_code_2) (XT.ii_lt_f (by decide)) (n := 5) rfl ?_
  refine o_iconst X0 hx (hb hby d_method_3_code_5) (v := (1 : Int32)) rfl (n := 6) rfl ?_
  exact o_nreturn X0 hx hret hlk (t := .boolean) (by simp) (hb hby d_method_3_code_6) (by decide) (by decide) e0 ⟨rfl, rfl, rfl⟩
theorem o_ef24 (m : MethodId) (p0 : Int32) : entryFrame m #[(.int p0), (.int (1 : Int32)), (.int (3 : Int32))] 3 = mkF m 0 #[.val (.int p0), .val (.int (1 : Int32)), .val (.int (3 : Int32))] [] := by first | (simp [entryFrame, mkF, argsToLocals, Value.category]; done) | rfl
set_option maxRecDepth 65536 in
set_option maxHeartbeats 40000000 in
theorem c_check_1_3 (l : Launch) (Z : State) (a0 : Array Value) (hw : ∀ d ∈ tables_1, d.before a0 Z = true) (p0 : Int32) (h0 : Heap) (h : 0 ≤ p0.toInt ∧ p0.toInt < 128) :
    Does l Z (⟨"com/example/variform/variform/variant/Utf8ByteOfPinLaw", "check", "(III)Z"⟩ : MethodName) method_3_code 3 (some .boolean) [] ({ frames := 0, cells := 0, slots := 0, locals := 0 } : Room) #[(.int p0), (.int (1 : Int32)), (.int (3 : Int32))] h0 (Pur h0 (.int 1)) := by
  refine Does.of (plainFor_of_name o_pn1) ?_
  intro p e s m below meth c T0 hx hby hml hown hnm hret hlk hZ X0 e0
  have hown : s.vm.findClass "com/example/variform/variform/variant/Utf8ByteOfPinLaw" = some m.cls := hown
  have hml : c.maxLocals = 3 := hml
  have hret : meth.sig.returnType = some .boolean := hret
  refine o_entry (o_ef24 m p0) ?_
  refine o_iloadN X0 hx (hb hby d_method_3_code_0) (v := (3 : Int32)) rfl (n := 1) rfl ?_
  refine o_iloadN X0 hx (hb hby d_method_3_code_1) (v := (1 : Int32)) rfl (n := 2) rfl ?_
  refine o_icmpN X0 hx (hb hby d_method_3_code_2) (XT.ii_lt_f (by decide)) (n := 5) rfl ?_
  refine o_iconst X0 hx (hb hby d_method_3_code_5) (v := (1 : Int32)) rfl (n := 6) rfl ?_
  exact o_nreturn X0 hx hret hlk (t := .boolean) (by simp) (hb hby d_method_3_code_6) (by decide) (by decide) e0 ⟨rfl, rfl, rfl⟩
theorem o_ef25 (m : MethodId) (p0 : Int32) : entryFrame m #[(.int p0), (.int (2 : Int32)), (.int (0 : Int32))] 3 = mkF m 0 #[.val (.int p0), .val (.int (2 : Int32)), .val (.int (0 : Int32))] [] := by first | (simp [entryFrame, mkF, argsToLocals, Value.category]; done) | rfl
set_option maxRecDepth 65536 in
set_option maxHeartbeats 40000000 in
theorem c_check_2_0 (l : Launch) (Z : State) (a0 : Array Value) (hw : ∀ d ∈ tables_1, d.before a0 Z = true) (p0 : Int32) (h0 : Heap) (h : 128 ≤ p0.toInt ∧ p0.toInt < 2048) :
    Does l Z (⟨"com/example/variform/variform/variant/Utf8ByteOfPinLaw", "check", "(III)Z"⟩ : MethodName) method_3_code 3 (some .boolean) [] ({ frames := 1, cells := 0, slots := 0, locals := 19 } : Room) #[(.int p0), (.int (2 : Int32)), (.int (0 : Int32))] h0 (Pur h0 (.int 1)) := by
  refine Does.of (plainFor_of_name o_pn1) ?_
  intro p e s m below meth c T0 hx hby hml hown hnm hret hlk hZ X0 e0
  have hown : s.vm.findClass "com/example/variform/variform/variant/Utf8ByteOfPinLaw" = some m.cls := hown
  have hml : c.maxLocals = 3 := hml
  have hret : meth.sig.returnType = some .boolean := hret
  refine o_entry (o_ef25 m p0) ?_
  refine o_iloadN X0 hx (hb hby d_method_3_code_0) (v := (0 : Int32)) rfl (n := 1) rfl ?_
  refine o_iloadN X0 hx (hb hby d_method_3_code_1) (v := (2 : Int32)) rfl (n := 2) rfl ?_
  refine o_icmpY X0 hx (hb hby d_method_3_code_2) (XT.ii_lt_t (by decide)) (by decide) (n := 7) (by decide) ?_
  refine o_iloadN X0 hx (hb hby d_method_3_code_7) (v := p0) rfl (n := 8) rfl ?_
  refine o_iloadN X0 hx (hb hby d_method_3_code_8) (v := (2 : Int32)) rfl (n := 9) rfl ?_
  refine o_iloadN X0 hx (hb hby d_method_3_code_9) (v := (0 : Int32)) rfl (n := 10) rfl ?_
  refine o_callS X0 hx hZ hown (hw _ (List.mem_of_getElem? (i := 5) rfl)) (hw _ (List.mem_of_getElem? (i := 6) rfl)) (hw _ (List.mem_of_getElem? (i := 7) rfl)) (hw _ (List.mem_of_getElem? (i := 8) rfl)) (by decide) e0 (argsL := [(.int p0), (.int (2 : Int32)), (.int (0 : Int32))]) (rest := []) (c_byteOf_2_0 l Z a0 hw p0 h0) 0 (by decide) (by decide) (by decide) (by decide) (by rw [hml]; rfl) (lenOf o_pd0 rfl) rfl (Nat.le_of_eq rfl) (hb hby d_method_3_code_10) (n := 13) rfl ?_
  intro v1 T1 L1 X1 q1
  obtain ⟨rfl, e1, rfl⟩ := q1
  show Goes p e below s _ _ _ (T1.setTop (mkF m 13 #[.val (.int p0), .val (.int (2 : Int32)), .val (.int (0 : Int32))] [(.int ((192 : Int32) ||| (p0.toUInt32 >>> (6 : UInt32)).toInt32))]))
  refine o_iloadN X1 hx (hb hby d_method_3_code_13) (v := p0) rfl (n := 14) rfl ?_
  refine o_iloadN X1 hx (hb hby d_method_3_code_14) (v := (2 : Int32)) rfl (n := 15) rfl ?_
  refine o_iloadN X1 hx (hb hby d_method_3_code_15) (v := (0 : Int32)) rfl (n := 16) rfl ?_
  refine o_callS X1 hx hZ hown (hw _ (List.mem_of_getElem? (i := 9) rfl)) (hw _ (List.mem_of_getElem? (i := 10) rfl)) (hw _ (List.mem_of_getElem? (i := 3) rfl)) (hw _ (List.mem_of_getElem? (i := 11) rfl)) (by decide) e1 (argsL := [(.int p0), (.int (2 : Int32)), (.int (0 : Int32))]) (rest := [(.int ((192 : Int32) ||| (p0.toUInt32 >>> (6 : UInt32)).toInt32))]) (c_ref_2_0 l Z a0 hw p0 h0) 1 (by decide) (by decide) (by decide) (by decide) (by rw [hml]; rfl) (lenOf o_pd0 rfl) rfl (Nat.le_of_eq rfl) (hb hby d_method_3_code_16) (n := 19) rfl ?_
  intro v2 T2 L2 X2 q2
  obtain ⟨rfl, e2, rfl⟩ := q2
  show Goes p e below s _ _ _ (T2.setTop (mkF m 19 #[.val (.int p0), .val (.int (2 : Int32)), .val (.int (0 : Int32))] [(.int ((192 : Int32) + (p0 / (64 : Int32)))), (.int ((192 : Int32) ||| (p0.toUInt32 >>> (6 : UInt32)).toInt32))]))
  refine o_icmpN X2 hx (hb hby d_method_3_code_19) (XT.ii_ne_f (o_same_2_0 p0 h)) (n := 22) rfl ?_
  refine o_iconst X2 hx (hb hby d_method_3_code_22) (v := (1 : Int32)) rfl (n := 23) rfl ?_
  refine o_goto X2 hx (hb hby d_method_3_code_23) (by decide) (n := 27) (by decide) ?_
  exact o_nreturn X2 hx hret hlk (t := .boolean) (by simp) (hb hby d_method_3_code_27) (by decide) (by decide) e2 ⟨rfl, rfl, rfl⟩
theorem o_ef26 (m : MethodId) (p0 : Int32) : entryFrame m #[(.int p0), (.int (2 : Int32)), (.int (1 : Int32))] 3 = mkF m 0 #[.val (.int p0), .val (.int (2 : Int32)), .val (.int (1 : Int32))] [] := by first | (simp [entryFrame, mkF, argsToLocals, Value.category]; done) | rfl
set_option maxRecDepth 65536 in
set_option maxHeartbeats 40000000 in
theorem c_check_2_1 (l : Launch) (Z : State) (a0 : Array Value) (hw : ∀ d ∈ tables_1, d.before a0 Z = true) (p0 : Int32) (h0 : Heap) (h : 128 ≤ p0.toInt ∧ p0.toInt < 2048) :
    Does l Z (⟨"com/example/variform/variform/variant/Utf8ByteOfPinLaw", "check", "(III)Z"⟩ : MethodName) method_3_code 3 (some .boolean) [] ({ frames := 1, cells := 0, slots := 0, locals := 19 } : Room) #[(.int p0), (.int (2 : Int32)), (.int (1 : Int32))] h0 (Pur h0 (.int 1)) := by
  refine Does.of (plainFor_of_name o_pn1) ?_
  intro p e s m below meth c T0 hx hby hml hown hnm hret hlk hZ X0 e0
  have hown : s.vm.findClass "com/example/variform/variform/variant/Utf8ByteOfPinLaw" = some m.cls := hown
  have hml : c.maxLocals = 3 := hml
  have hret : meth.sig.returnType = some .boolean := hret
  refine o_entry (o_ef26 m p0) ?_
  refine o_iloadN X0 hx (hb hby d_method_3_code_0) (v := (1 : Int32)) rfl (n := 1) rfl ?_
  refine o_iloadN X0 hx (hb hby d_method_3_code_1) (v := (2 : Int32)) rfl (n := 2) rfl ?_
  refine o_icmpY X0 hx (hb hby d_method_3_code_2) (XT.ii_lt_t (by decide)) (by decide) (n := 7) (by decide) ?_
  refine o_iloadN X0 hx (hb hby d_method_3_code_7) (v := p0) rfl (n := 8) rfl ?_
  refine o_iloadN X0 hx (hb hby d_method_3_code_8) (v := (2 : Int32)) rfl (n := 9) rfl ?_
  refine o_iloadN X0 hx (hb hby d_method_3_code_9) (v := (1 : Int32)) rfl (n := 10) rfl ?_
  refine o_callS X0 hx hZ hown (hw _ (List.mem_of_getElem? (i := 5) rfl)) (hw _ (List.mem_of_getElem? (i := 6) rfl)) (hw _ (List.mem_of_getElem? (i := 7) rfl)) (hw _ (List.mem_of_getElem? (i := 8) rfl)) (by decide) e0 (argsL := [(.int p0), (.int (2 : Int32)), (.int (1 : Int32))]) (rest := []) (c_byteOf_2_1 l Z a0 hw p0 h0) 0 (by decide) (by decide) (by decide) (by decide) (by rw [hml]; rfl) (lenOf o_pd0 rfl) rfl (Nat.le_of_eq rfl) (hb hby d_method_3_code_10) (n := 13) rfl ?_
  intro v1 T1 L1 X1 q1
  obtain ⟨rfl, e1, rfl⟩ := q1
  show Goes p e below s _ _ _ (T1.setTop (mkF m 13 #[.val (.int p0), .val (.int (2 : Int32)), .val (.int (1 : Int32))] [(.int ((128 : Int32) ||| ((p0.toUInt32 >>> (0 : UInt32)).toInt32 &&& (63 : Int32))))]))
  refine o_iloadN X1 hx (hb hby d_method_3_code_13) (v := p0) rfl (n := 14) rfl ?_
  refine o_iloadN X1 hx (hb hby d_method_3_code_14) (v := (2 : Int32)) rfl (n := 15) rfl ?_
  refine o_iloadN X1 hx (hb hby d_method_3_code_15) (v := (1 : Int32)) rfl (n := 16) rfl ?_
  refine o_callS X1 hx hZ hown (hw _ (List.mem_of_getElem? (i := 9) rfl)) (hw _ (List.mem_of_getElem? (i := 10) rfl)) (hw _ (List.mem_of_getElem? (i := 3) rfl)) (hw _ (List.mem_of_getElem? (i := 11) rfl)) (by decide) e1 (argsL := [(.int p0), (.int (2 : Int32)), (.int (1 : Int32))]) (rest := [(.int ((128 : Int32) ||| ((p0.toUInt32 >>> (0 : UInt32)).toInt32 &&& (63 : Int32))))]) (c_ref_2_1 l Z a0 hw p0 h0) 1 (by decide) (by decide) (by decide) (by decide) (by rw [hml]; rfl) (lenOf o_pd0 rfl) rfl (Nat.le_of_eq rfl) (hb hby d_method_3_code_16) (n := 19) rfl ?_
  intro v2 T2 L2 X2 q2
  obtain ⟨rfl, e2, rfl⟩ := q2
  show Goes p e below s _ _ _ (T2.setTop (mkF m 19 #[.val (.int p0), .val (.int (2 : Int32)), .val (.int (1 : Int32))] [(.int ((128 : Int32) + ((p0 / (1 : Int32)) % (64 : Int32)))), (.int ((128 : Int32) ||| ((p0.toUInt32 >>> (0 : UInt32)).toInt32 &&& (63 : Int32))))]))
  refine o_icmpN X2 hx (hb hby d_method_3_code_19) (XT.ii_ne_f (o_same_2_1 p0 h)) (n := 22) rfl ?_
  refine o_iconst X2 hx (hb hby d_method_3_code_22) (v := (1 : Int32)) rfl (n := 23) rfl ?_
  refine o_goto X2 hx (hb hby d_method_3_code_23) (by decide) (n := 27) (by decide) ?_
  exact o_nreturn X2 hx hret hlk (t := .boolean) (by simp) (hb hby d_method_3_code_27) (by decide) (by decide) e2 ⟨rfl, rfl, rfl⟩
theorem o_ef27 (m : MethodId) (p0 : Int32) : entryFrame m #[(.int p0), (.int (2 : Int32)), (.int (2 : Int32))] 3 = mkF m 0 #[.val (.int p0), .val (.int (2 : Int32)), .val (.int (2 : Int32))] [] := by first | (simp [entryFrame, mkF, argsToLocals, Value.category]; done) | rfl
set_option maxRecDepth 65536 in
set_option maxHeartbeats 40000000 in
theorem c_check_2_2 (l : Launch) (Z : State) (a0 : Array Value) (hw : ∀ d ∈ tables_1, d.before a0 Z = true) (p0 : Int32) (h0 : Heap) (h : 128 ≤ p0.toInt ∧ p0.toInt < 2048) :
    Does l Z (⟨"com/example/variform/variform/variant/Utf8ByteOfPinLaw", "check", "(III)Z"⟩ : MethodName) method_3_code 3 (some .boolean) [] ({ frames := 0, cells := 0, slots := 0, locals := 0 } : Room) #[(.int p0), (.int (2 : Int32)), (.int (2 : Int32))] h0 (Pur h0 (.int 1)) := by
  refine Does.of (plainFor_of_name o_pn1) ?_
  intro p e s m below meth c T0 hx hby hml hown hnm hret hlk hZ X0 e0
  have hown : s.vm.findClass "com/example/variform/variform/variant/Utf8ByteOfPinLaw" = some m.cls := hown
  have hml : c.maxLocals = 3 := hml
  have hret : meth.sig.returnType = some .boolean := hret
  refine o_entry (o_ef27 m p0) ?_
  refine o_iloadN X0 hx (hb hby d_method_3_code_0) (v := (2 : Int32)) rfl (n := 1) rfl ?_
  refine o_iloadN X0 hx (hb hby d_method_3_code_1) (v := (2 : Int32)) rfl (n := 2) rfl ?_
  refine o_icmpN X0 hx (hb hby d_method_3_code_2) (XT.ii_lt_f (by decide)) (n := 5) rfl ?_
  refine o_iconst X0 hx (hb hby d_method_3_code_5) (v := (1 : Int32)) rfl (n := 6) rfl ?_
  exact o_nreturn X0 hx hret hlk (t := .boolean) (by simp) (hb hby d_method_3_code_6) (by decide) (by decide) e0 ⟨rfl, rfl, rfl⟩
theorem o_ef28 (m : MethodId) (p0 : Int32) : entryFrame m #[(.int p0), (.int (2 : Int32)), (.int (3 : Int32))] 3 = mkF m 0 #[.val (.int p0), .val (.int (2 : Int32)), .val (.int (3 : Int32))] [] := by first | (simp [entryFrame, mkF, argsToLocals, Value.category]; done) | rfl
set_option maxRecDepth 65536 in
set_option maxHeartbeats 40000000 in
theorem c_check_2_3 (l : Launch) (Z : State) (a0 : Array Value) (hw : ∀ d ∈ tables_1, d.before a0 Z = true) (p0 : Int32) (h0 : Heap) (h : 128 ≤ p0.toInt ∧ p0.toInt < 2048) :
    Does l Z (⟨"com/example/variform/variform/variant/Utf8ByteOfPinLaw", "check", "(III)Z"⟩ : MethodName) method_3_code 3 (some .boolean) [] ({ frames := 0, cells := 0, slots := 0, locals := 0 } : Room) #[(.int p0), (.int (2 : Int32)), (.int (3 : Int32))] h0 (Pur h0 (.int 1)) := by
  refine Does.of (plainFor_of_name o_pn1) ?_
  intro p e s m below meth c T0 hx hby hml hown hnm hret hlk hZ X0 e0
  have hown : s.vm.findClass "com/example/variform/variform/variant/Utf8ByteOfPinLaw" = some m.cls := hown
  have hml : c.maxLocals = 3 := hml
  have hret : meth.sig.returnType = some .boolean := hret
  refine o_entry (o_ef28 m p0) ?_
  refine o_iloadN X0 hx (hb hby d_method_3_code_0) (v := (3 : Int32)) rfl (n := 1) rfl ?_
  refine o_iloadN X0 hx (hb hby d_method_3_code_1) (v := (2 : Int32)) rfl (n := 2) rfl ?_
  refine o_icmpN X0 hx (hb hby d_method_3_code_2) (XT.ii_lt_f (by decide)) (n := 5) rfl ?_
  refine o_iconst X0 hx (hb hby d_method_3_code_5) (v := (1 : Int32)) rfl (n := 6) rfl ?_
  exact o_nreturn X0 hx hret hlk (t := .boolean) (by simp) (hb hby d_method_3_code_6) (by decide) (by decide) e0 ⟨rfl, rfl, rfl⟩
theorem o_ef29 (m : MethodId) (p0 : Int32) : entryFrame m #[(.int p0), (.int (3 : Int32)), (.int (0 : Int32))] 3 = mkF m 0 #[.val (.int p0), .val (.int (3 : Int32)), .val (.int (0 : Int32))] [] := by first | (simp [entryFrame, mkF, argsToLocals, Value.category]; done) | rfl
set_option maxRecDepth 65536 in
set_option maxHeartbeats 40000000 in
theorem c_check_3_0 (l : Launch) (Z : State) (a0 : Array Value) (hw : ∀ d ∈ tables_1, d.before a0 Z = true) (p0 : Int32) (h0 : Heap) (h : 2048 ≤ p0.toInt ∧ p0.toInt < 65536) :
    Does l Z (⟨"com/example/variform/variform/variant/Utf8ByteOfPinLaw", "check", "(III)Z"⟩ : MethodName) method_3_code 3 (some .boolean) [] ({ frames := 1, cells := 0, slots := 0, locals := 19 } : Room) #[(.int p0), (.int (3 : Int32)), (.int (0 : Int32))] h0 (Pur h0 (.int 1)) := by
  refine Does.of (plainFor_of_name o_pn1) ?_
  intro p e s m below meth c T0 hx hby hml hown hnm hret hlk hZ X0 e0
  have hown : s.vm.findClass "com/example/variform/variform/variant/Utf8ByteOfPinLaw" = some m.cls := hown
  have hml : c.maxLocals = 3 := hml
  have hret : meth.sig.returnType = some .boolean := hret
  refine o_entry (o_ef29 m p0) ?_
  refine o_iloadN X0 hx (hb hby d_method_3_code_0) (v := (0 : Int32)) rfl (n := 1) rfl ?_
  refine o_iloadN X0 hx (hb hby d_method_3_code_1) (v := (3 : Int32)) rfl (n := 2) rfl ?_
  refine o_icmpY X0 hx (hb hby d_method_3_code_2) (XT.ii_lt_t (by decide)) (by decide) (n := 7) (by decide) ?_
  refine o_iloadN X0 hx (hb hby d_method_3_code_7) (v := p0) rfl (n := 8) rfl ?_
  refine o_iloadN X0 hx (hb hby d_method_3_code_8) (v := (3 : Int32)) rfl (n := 9) rfl ?_
  refine o_iloadN X0 hx (hb hby d_method_3_code_9) (v := (0 : Int32)) rfl (n := 10) rfl ?_
  refine o_callS X0 hx hZ hown (hw _ (List.mem_of_getElem? (i := 5) rfl)) (hw _ (List.mem_of_getElem? (i := 6) rfl)) (hw _ (List.mem_of_getElem? (i := 7) rfl)) (hw _ (List.mem_of_getElem? (i := 8) rfl)) (by decide) e0 (argsL := [(.int p0), (.int (3 : Int32)), (.int (0 : Int32))]) (rest := []) (c_byteOf_3_0 l Z a0 hw p0 h0) 0 (by decide) (by decide) (by decide) (by decide) (by rw [hml]; rfl) (lenOf o_pd0 rfl) rfl (Nat.le_of_eq rfl) (hb hby d_method_3_code_10) (n := 13) rfl ?_
  intro v1 T1 L1 X1 q1
  obtain ⟨rfl, e1, rfl⟩ := q1
  show Goes p e below s _ _ _ (T1.setTop (mkF m 13 #[.val (.int p0), .val (.int (3 : Int32)), .val (.int (0 : Int32))] [(.int ((224 : Int32) ||| (p0.toUInt32 >>> (12 : UInt32)).toInt32))]))
  refine o_iloadN X1 hx (hb hby d_method_3_code_13) (v := p0) rfl (n := 14) rfl ?_
  refine o_iloadN X1 hx (hb hby d_method_3_code_14) (v := (3 : Int32)) rfl (n := 15) rfl ?_
  refine o_iloadN X1 hx (hb hby d_method_3_code_15) (v := (0 : Int32)) rfl (n := 16) rfl ?_
  refine o_callS X1 hx hZ hown (hw _ (List.mem_of_getElem? (i := 9) rfl)) (hw _ (List.mem_of_getElem? (i := 10) rfl)) (hw _ (List.mem_of_getElem? (i := 3) rfl)) (hw _ (List.mem_of_getElem? (i := 11) rfl)) (by decide) e1 (argsL := [(.int p0), (.int (3 : Int32)), (.int (0 : Int32))]) (rest := [(.int ((224 : Int32) ||| (p0.toUInt32 >>> (12 : UInt32)).toInt32))]) (c_ref_3_0 l Z a0 hw p0 h0) 1 (by decide) (by decide) (by decide) (by decide) (by rw [hml]; rfl) (lenOf o_pd0 rfl) rfl (Nat.le_of_eq rfl) (hb hby d_method_3_code_16) (n := 19) rfl ?_
  intro v2 T2 L2 X2 q2
  obtain ⟨rfl, e2, rfl⟩ := q2
  show Goes p e below s _ _ _ (T2.setTop (mkF m 19 #[.val (.int p0), .val (.int (3 : Int32)), .val (.int (0 : Int32))] [(.int ((224 : Int32) + (p0 / (4096 : Int32)))), (.int ((224 : Int32) ||| (p0.toUInt32 >>> (12 : UInt32)).toInt32))]))
  refine o_icmpN X2 hx (hb hby d_method_3_code_19) (XT.ii_ne_f (o_same_3_0 p0 h)) (n := 22) rfl ?_
  refine o_iconst X2 hx (hb hby d_method_3_code_22) (v := (1 : Int32)) rfl (n := 23) rfl ?_
  refine o_goto X2 hx (hb hby d_method_3_code_23) (by decide) (n := 27) (by decide) ?_
  exact o_nreturn X2 hx hret hlk (t := .boolean) (by simp) (hb hby d_method_3_code_27) (by decide) (by decide) e2 ⟨rfl, rfl, rfl⟩
theorem o_ef30 (m : MethodId) (p0 : Int32) : entryFrame m #[(.int p0), (.int (3 : Int32)), (.int (1 : Int32))] 3 = mkF m 0 #[.val (.int p0), .val (.int (3 : Int32)), .val (.int (1 : Int32))] [] := by first | (simp [entryFrame, mkF, argsToLocals, Value.category]; done) | rfl
set_option maxRecDepth 65536 in
set_option maxHeartbeats 40000000 in
theorem c_check_3_1 (l : Launch) (Z : State) (a0 : Array Value) (hw : ∀ d ∈ tables_1, d.before a0 Z = true) (p0 : Int32) (h0 : Heap) (h : 2048 ≤ p0.toInt ∧ p0.toInt < 65536) :
    Does l Z (⟨"com/example/variform/variform/variant/Utf8ByteOfPinLaw", "check", "(III)Z"⟩ : MethodName) method_3_code 3 (some .boolean) [] ({ frames := 1, cells := 0, slots := 0, locals := 19 } : Room) #[(.int p0), (.int (3 : Int32)), (.int (1 : Int32))] h0 (Pur h0 (.int 1)) := by
  refine Does.of (plainFor_of_name o_pn1) ?_
  intro p e s m below meth c T0 hx hby hml hown hnm hret hlk hZ X0 e0
  have hown : s.vm.findClass "com/example/variform/variform/variant/Utf8ByteOfPinLaw" = some m.cls := hown
  have hml : c.maxLocals = 3 := hml
  have hret : meth.sig.returnType = some .boolean := hret
  refine o_entry (o_ef30 m p0) ?_
  refine o_iloadN X0 hx (hb hby d_method_3_code_0) (v := (1 : Int32)) rfl (n := 1) rfl ?_
  refine o_iloadN X0 hx (hb hby d_method_3_code_1) (v := (3 : Int32)) rfl (n := 2) rfl ?_
  refine o_icmpY X0 hx (hb hby d_method_3_code_2) (XT.ii_lt_t (by decide)) (by decide) (n := 7) (by decide) ?_
  refine o_iloadN X0 hx (hb hby d_method_3_code_7) (v := p0) rfl (n := 8) rfl ?_
  refine o_iloadN X0 hx (hb hby d_method_3_code_8) (v := (3 : Int32)) rfl (n := 9) rfl ?_
  refine o_iloadN X0 hx (hb hby d_method_3_code_9) (v := (1 : Int32)) rfl (n := 10) rfl ?_
  refine o_callS X0 hx hZ hown (hw _ (List.mem_of_getElem? (i := 5) rfl)) (hw _ (List.mem_of_getElem? (i := 6) rfl)) (hw _ (List.mem_of_getElem? (i := 7) rfl)) (hw _ (List.mem_of_getElem? (i := 8) rfl)) (by decide) e0 (argsL := [(.int p0), (.int (3 : Int32)), (.int (1 : Int32))]) (rest := []) (c_byteOf_3_1 l Z a0 hw p0 h0) 0 (by decide) (by decide) (by decide) (by decide) (by rw [hml]; rfl) (lenOf o_pd0 rfl) rfl (Nat.le_of_eq rfl) (hb hby d_method_3_code_10) (n := 13) rfl ?_
  intro v1 T1 L1 X1 q1
  obtain ⟨rfl, e1, rfl⟩ := q1
  show Goes p e below s _ _ _ (T1.setTop (mkF m 13 #[.val (.int p0), .val (.int (3 : Int32)), .val (.int (1 : Int32))] [(.int ((128 : Int32) ||| ((p0.toUInt32 >>> (6 : UInt32)).toInt32 &&& (63 : Int32))))]))
  refine o_iloadN X1 hx (hb hby d_method_3_code_13) (v := p0) rfl (n := 14) rfl ?_
  refine o_iloadN X1 hx (hb hby d_method_3_code_14) (v := (3 : Int32)) rfl (n := 15) rfl ?_
  refine o_iloadN X1 hx (hb hby d_method_3_code_15) (v := (1 : Int32)) rfl (n := 16) rfl ?_
  refine o_callS X1 hx hZ hown (hw _ (List.mem_of_getElem? (i := 9) rfl)) (hw _ (List.mem_of_getElem? (i := 10) rfl)) (hw _ (List.mem_of_getElem? (i := 3) rfl)) (hw _ (List.mem_of_getElem? (i := 11) rfl)) (by decide) e1 (argsL := [(.int p0), (.int (3 : Int32)), (.int (1 : Int32))]) (rest := [(.int ((128 : Int32) ||| ((p0.toUInt32 >>> (6 : UInt32)).toInt32 &&& (63 : Int32))))]) (c_ref_3_1 l Z a0 hw p0 h0) 1 (by decide) (by decide) (by decide) (by decide) (by rw [hml]; rfl) (lenOf o_pd0 rfl) rfl (Nat.le_of_eq rfl) (hb hby d_method_3_code_16) (n := 19) rfl ?_
  intro v2 T2 L2 X2 q2
  obtain ⟨rfl, e2, rfl⟩ := q2
  show Goes p e below s _ _ _ (T2.setTop (mkF m 19 #[.val (.int p0), .val (.int (3 : Int32)), .val (.int (1 : Int32))] [(.int ((128 : Int32) + ((p0 / (64 : Int32)) % (64 : Int32)))), (.int ((128 : Int32) ||| ((p0.toUInt32 >>> (6 : UInt32)).toInt32 &&& (63 : Int32))))]))
  refine o_icmpN X2 hx (hb hby d_method_3_code_19) (XT.ii_ne_f (o_same_3_1 p0 h)) (n := 22) rfl ?_
  refine o_iconst X2 hx (hb hby d_method_3_code_22) (v := (1 : Int32)) rfl (n := 23) rfl ?_
  refine o_goto X2 hx (hb hby d_method_3_code_23) (by decide) (n := 27) (by decide) ?_
  exact o_nreturn X2 hx hret hlk (t := .boolean) (by simp) (hb hby d_method_3_code_27) (by decide) (by decide) e2 ⟨rfl, rfl, rfl⟩
theorem o_ef31 (m : MethodId) (p0 : Int32) : entryFrame m #[(.int p0), (.int (3 : Int32)), (.int (2 : Int32))] 3 = mkF m 0 #[.val (.int p0), .val (.int (3 : Int32)), .val (.int (2 : Int32))] [] := by first | (simp [entryFrame, mkF, argsToLocals, Value.category]; done) | rfl
set_option maxRecDepth 65536 in
set_option maxHeartbeats 40000000 in
theorem c_check_3_2 (l : Launch) (Z : State) (a0 : Array Value) (hw : ∀ d ∈ tables_1, d.before a0 Z = true) (p0 : Int32) (h0 : Heap) (h : 2048 ≤ p0.toInt ∧ p0.toInt < 65536) :
    Does l Z (⟨"com/example/variform/variform/variant/Utf8ByteOfPinLaw", "check", "(III)Z"⟩ : MethodName) method_3_code 3 (some .boolean) [] ({ frames := 1, cells := 0, slots := 0, locals := 19 } : Room) #[(.int p0), (.int (3 : Int32)), (.int (2 : Int32))] h0 (Pur h0 (.int 1)) := by
  refine Does.of (plainFor_of_name o_pn1) ?_
  intro p e s m below meth c T0 hx hby hml hown hnm hret hlk hZ X0 e0
  have hown : s.vm.findClass "com/example/variform/variform/variant/Utf8ByteOfPinLaw" = some m.cls := hown
  have hml : c.maxLocals = 3 := hml
  have hret : meth.sig.returnType = some .boolean := hret
  refine o_entry (o_ef31 m p0) ?_
  refine o_iloadN X0 hx (hb hby d_method_3_code_0) (v := (2 : Int32)) rfl (n := 1) rfl ?_
  refine o_iloadN X0 hx (hb hby d_method_3_code_1) (v := (3 : Int32)) rfl (n := 2) rfl ?_
  refine o_icmpY X0 hx (hb hby d_method_3_code_2) (XT.ii_lt_t (by decide)) (by decide) (n := 7) (by decide) ?_
  refine o_iloadN X0 hx (hb hby d_method_3_code_7) (v := p0) rfl (n := 8) rfl ?_
  refine o_iloadN X0 hx (hb hby d_method_3_code_8) (v := (3 : Int32)) rfl (n := 9) rfl ?_
  refine o_iloadN X0 hx (hb hby d_method_3_code_9) (v := (2 : Int32)) rfl (n := 10) rfl ?_
  refine o_callS X0 hx hZ hown (hw _ (List.mem_of_getElem? (i := 5) rfl)) (hw _ (List.mem_of_getElem? (i := 6) rfl)) (hw _ (List.mem_of_getElem? (i := 7) rfl)) (hw _ (List.mem_of_getElem? (i := 8) rfl)) (by decide) e0 (argsL := [(.int p0), (.int (3 : Int32)), (.int (2 : Int32))]) (rest := []) (c_byteOf_3_2 l Z a0 hw p0 h0) 0 (by decide) (by decide) (by decide) (by decide) (by rw [hml]; rfl) (lenOf o_pd0 rfl) rfl (Nat.le_of_eq rfl) (hb hby d_method_3_code_10) (n := 13) rfl ?_
  intro v1 T1 L1 X1 q1
  obtain ⟨rfl, e1, rfl⟩ := q1
  show Goes p e below s _ _ _ (T1.setTop (mkF m 13 #[.val (.int p0), .val (.int (3 : Int32)), .val (.int (2 : Int32))] [(.int ((128 : Int32) ||| ((p0.toUInt32 >>> (0 : UInt32)).toInt32 &&& (63 : Int32))))]))
  refine o_iloadN X1 hx (hb hby d_method_3_code_13) (v := p0) rfl (n := 14) rfl ?_
  refine o_iloadN X1 hx (hb hby d_method_3_code_14) (v := (3 : Int32)) rfl (n := 15) rfl ?_
  refine o_iloadN X1 hx (hb hby d_method_3_code_15) (v := (2 : Int32)) rfl (n := 16) rfl ?_
  refine o_callS X1 hx hZ hown (hw _ (List.mem_of_getElem? (i := 9) rfl)) (hw _ (List.mem_of_getElem? (i := 10) rfl)) (hw _ (List.mem_of_getElem? (i := 3) rfl)) (hw _ (List.mem_of_getElem? (i := 11) rfl)) (by decide) e1 (argsL := [(.int p0), (.int (3 : Int32)), (.int (2 : Int32))]) (rest := [(.int ((128 : Int32) ||| ((p0.toUInt32 >>> (0 : UInt32)).toInt32 &&& (63 : Int32))))]) (c_ref_3_2 l Z a0 hw p0 h0) 1 (by decide) (by decide) (by decide) (by decide) (by rw [hml]; rfl) (lenOf o_pd0 rfl) rfl (Nat.le_of_eq rfl) (hb hby d_method_3_code_16) (n := 19) rfl ?_
  intro v2 T2 L2 X2 q2
  obtain ⟨rfl, e2, rfl⟩ := q2
  show Goes p e below s _ _ _ (T2.setTop (mkF m 19 #[.val (.int p0), .val (.int (3 : Int32)), .val (.int (2 : Int32))] [(.int ((128 : Int32) + ((p0 / (1 : Int32)) % (64 : Int32)))), (.int ((128 : Int32) ||| ((p0.toUInt32 >>> (0 : UInt32)).toInt32 &&& (63 : Int32))))]))
  refine o_icmpN X2 hx (hb hby d_method_3_code_19) (XT.ii_ne_f (o_same_3_2 p0 h)) (n := 22) rfl ?_
  refine o_iconst X2 hx (hb hby d_method_3_code_22) (v := (1 : Int32)) rfl (n := 23) rfl ?_
  refine o_goto X2 hx (hb hby d_method_3_code_23) (by decide) (n := 27) (by decide) ?_
  exact o_nreturn X2 hx hret hlk (t := .boolean) (by simp) (hb hby d_method_3_code_27) (by decide) (by decide) e2 ⟨rfl, rfl, rfl⟩
theorem o_ef32 (m : MethodId) (p0 : Int32) : entryFrame m #[(.int p0), (.int (3 : Int32)), (.int (3 : Int32))] 3 = mkF m 0 #[.val (.int p0), .val (.int (3 : Int32)), .val (.int (3 : Int32))] [] := by first | (simp [entryFrame, mkF, argsToLocals, Value.category]; done) | rfl
set_option maxRecDepth 65536 in
set_option maxHeartbeats 40000000 in
theorem c_check_3_3 (l : Launch) (Z : State) (a0 : Array Value) (hw : ∀ d ∈ tables_1, d.before a0 Z = true) (p0 : Int32) (h0 : Heap) (h : 2048 ≤ p0.toInt ∧ p0.toInt < 65536) :
    Does l Z (⟨"com/example/variform/variform/variant/Utf8ByteOfPinLaw", "check", "(III)Z"⟩ : MethodName) method_3_code 3 (some .boolean) [] ({ frames := 0, cells := 0, slots := 0, locals := 0 } : Room) #[(.int p0), (.int (3 : Int32)), (.int (3 : Int32))] h0 (Pur h0 (.int 1)) := by
  refine Does.of (plainFor_of_name o_pn1) ?_
  intro p e s m below meth c T0 hx hby hml hown hnm hret hlk hZ X0 e0
  have hown : s.vm.findClass "com/example/variform/variform/variant/Utf8ByteOfPinLaw" = some m.cls := hown
  have hml : c.maxLocals = 3 := hml
  have hret : meth.sig.returnType = some .boolean := hret
  refine o_entry (o_ef32 m p0) ?_
  refine o_iloadN X0 hx (hb hby d_method_3_code_0) (v := (3 : Int32)) rfl (n := 1) rfl ?_
  refine o_iloadN X0 hx (hb hby d_method_3_code_1) (v := (3 : Int32)) rfl (n := 2) rfl ?_
  refine o_icmpN X0 hx (hb hby d_method_3_code_2) (XT.ii_lt_f (by decide)) (n := 5) rfl ?_
  refine o_iconst X0 hx (hb hby d_method_3_code_5) (v := (1 : Int32)) rfl (n := 6) rfl ?_
  exact o_nreturn X0 hx hret hlk (t := .boolean) (by simp) (hb hby d_method_3_code_6) (by decide) (by decide) e0 ⟨rfl, rfl, rfl⟩
theorem o_ef33 (m : MethodId) (p0 : Int32) : entryFrame m #[(.int p0), (.int (4 : Int32)), (.int (0 : Int32))] 3 = mkF m 0 #[.val (.int p0), .val (.int (4 : Int32)), .val (.int (0 : Int32))] [] := by first | (simp [entryFrame, mkF, argsToLocals, Value.category]; done) | rfl
set_option maxRecDepth 65536 in
set_option maxHeartbeats 40000000 in
theorem c_check_4_0 (l : Launch) (Z : State) (a0 : Array Value) (hw : ∀ d ∈ tables_1, d.before a0 Z = true) (p0 : Int32) (h0 : Heap) (h : 65536 ≤ p0.toInt ∧ p0.toInt < 1114112) :
    Does l Z (⟨"com/example/variform/variform/variant/Utf8ByteOfPinLaw", "check", "(III)Z"⟩ : MethodName) method_3_code 3 (some .boolean) [] ({ frames := 1, cells := 0, slots := 0, locals := 19 } : Room) #[(.int p0), (.int (4 : Int32)), (.int (0 : Int32))] h0 (Pur h0 (.int 1)) := by
  refine Does.of (plainFor_of_name o_pn1) ?_
  intro p e s m below meth c T0 hx hby hml hown hnm hret hlk hZ X0 e0
  have hown : s.vm.findClass "com/example/variform/variform/variant/Utf8ByteOfPinLaw" = some m.cls := hown
  have hml : c.maxLocals = 3 := hml
  have hret : meth.sig.returnType = some .boolean := hret
  refine o_entry (o_ef33 m p0) ?_
  refine o_iloadN X0 hx (hb hby d_method_3_code_0) (v := (0 : Int32)) rfl (n := 1) rfl ?_
  refine o_iloadN X0 hx (hb hby d_method_3_code_1) (v := (4 : Int32)) rfl (n := 2) rfl ?_
  refine o_icmpY X0 hx (hb hby d_method_3_code_2) (XT.ii_lt_t (by decide)) (by decide) (n := 7) (by decide) ?_
  refine o_iloadN X0 hx (hb hby d_method_3_code_7) (v := p0) rfl (n := 8) rfl ?_
  refine o_iloadN X0 hx (hb hby d_method_3_code_8) (v := (4 : Int32)) rfl (n := 9) rfl ?_
  refine o_iloadN X0 hx (hb hby d_method_3_code_9) (v := (0 : Int32)) rfl (n := 10) rfl ?_
  refine o_callS X0 hx hZ hown (hw _ (List.mem_of_getElem? (i := 5) rfl)) (hw _ (List.mem_of_getElem? (i := 6) rfl)) (hw _ (List.mem_of_getElem? (i := 7) rfl)) (hw _ (List.mem_of_getElem? (i := 8) rfl)) (by decide) e0 (argsL := [(.int p0), (.int (4 : Int32)), (.int (0 : Int32))]) (rest := []) (c_byteOf_4_0 l Z a0 hw p0 h0) 0 (by decide) (by decide) (by decide) (by decide) (by rw [hml]; rfl) (lenOf o_pd0 rfl) rfl (Nat.le_of_eq rfl) (hb hby d_method_3_code_10) (n := 13) rfl ?_
  intro v1 T1 L1 X1 q1
  obtain ⟨rfl, e1, rfl⟩ := q1
  show Goes p e below s _ _ _ (T1.setTop (mkF m 13 #[.val (.int p0), .val (.int (4 : Int32)), .val (.int (0 : Int32))] [(.int ((240 : Int32) ||| (p0.toUInt32 >>> (18 : UInt32)).toInt32))]))
  refine o_iloadN X1 hx (hb hby d_method_3_code_13) (v := p0) rfl (n := 14) rfl ?_
  refine o_iloadN X1 hx (hb hby d_method_3_code_14) (v := (4 : Int32)) rfl (n := 15) rfl ?_
  refine o_iloadN X1 hx (hb hby d_method_3_code_15) (v := (0 : Int32)) rfl (n := 16) rfl ?_
  refine o_callS X1 hx hZ hown (hw _ (List.mem_of_getElem? (i := 9) rfl)) (hw _ (List.mem_of_getElem? (i := 10) rfl)) (hw _ (List.mem_of_getElem? (i := 3) rfl)) (hw _ (List.mem_of_getElem? (i := 11) rfl)) (by decide) e1 (argsL := [(.int p0), (.int (4 : Int32)), (.int (0 : Int32))]) (rest := [(.int ((240 : Int32) ||| (p0.toUInt32 >>> (18 : UInt32)).toInt32))]) (c_ref_4_0 l Z a0 hw p0 h0) 1 (by decide) (by decide) (by decide) (by decide) (by rw [hml]; rfl) (lenOf o_pd0 rfl) rfl (Nat.le_of_eq rfl) (hb hby d_method_3_code_16) (n := 19) rfl ?_
  intro v2 T2 L2 X2 q2
  obtain ⟨rfl, e2, rfl⟩ := q2
  show Goes p e below s _ _ _ (T2.setTop (mkF m 19 #[.val (.int p0), .val (.int (4 : Int32)), .val (.int (0 : Int32))] [(.int ((240 : Int32) + (p0 / (262144 : Int32)))), (.int ((240 : Int32) ||| (p0.toUInt32 >>> (18 : UInt32)).toInt32))]))
  refine o_icmpN X2 hx (hb hby d_method_3_code_19) (XT.ii_ne_f (o_same_4_0 p0 h)) (n := 22) rfl ?_
  refine o_iconst X2 hx (hb hby d_method_3_code_22) (v := (1 : Int32)) rfl (n := 23) rfl ?_
  refine o_goto X2 hx (hb hby d_method_3_code_23) (by decide) (n := 27) (by decide) ?_
  exact o_nreturn X2 hx hret hlk (t := .boolean) (by simp) (hb hby d_method_3_code_27) (by decide) (by decide) e2 ⟨rfl, rfl, rfl⟩
theorem o_ef34 (m : MethodId) (p0 : Int32) : entryFrame m #[(.int p0), (.int (4 : Int32)), (.int (1 : Int32))] 3 = mkF m 0 #[.val (.int p0), .val (.int (4 : Int32)), .val (.int (1 : Int32))] [] := by first | (simp [entryFrame, mkF, argsToLocals, Value.category]; done) | rfl
set_option maxRecDepth 65536 in
set_option maxHeartbeats 40000000 in
theorem c_check_4_1 (l : Launch) (Z : State) (a0 : Array Value) (hw : ∀ d ∈ tables_1, d.before a0 Z = true) (p0 : Int32) (h0 : Heap) (h : 65536 ≤ p0.toInt ∧ p0.toInt < 1114112) :
    Does l Z (⟨"com/example/variform/variform/variant/Utf8ByteOfPinLaw", "check", "(III)Z"⟩ : MethodName) method_3_code 3 (some .boolean) [] ({ frames := 1, cells := 0, slots := 0, locals := 19 } : Room) #[(.int p0), (.int (4 : Int32)), (.int (1 : Int32))] h0 (Pur h0 (.int 1)) := by
  refine Does.of (plainFor_of_name o_pn1) ?_
  intro p e s m below meth c T0 hx hby hml hown hnm hret hlk hZ X0 e0
  have hown : s.vm.findClass "com/example/variform/variform/variant/Utf8ByteOfPinLaw" = some m.cls := hown
  have hml : c.maxLocals = 3 := hml
  have hret : meth.sig.returnType = some .boolean := hret
  refine o_entry (o_ef34 m p0) ?_
  refine o_iloadN X0 hx (hb hby d_method_3_code_0) (v := (1 : Int32)) rfl (n := 1) rfl ?_
  refine o_iloadN X0 hx (hb hby d_method_3_code_1) (v := (4 : Int32)) rfl (n := 2) rfl ?_
  refine o_icmpY X0 hx (hb hby d_method_3_code_2) (XT.ii_lt_t (by decide)) (by decide) (n := 7) (by decide) ?_
  refine o_iloadN X0 hx (hb hby d_method_3_code_7) (v := p0) rfl (n := 8) rfl ?_
  refine o_iloadN X0 hx (hb hby d_method_3_code_8) (v := (4 : Int32)) rfl (n := 9) rfl ?_
  refine o_iloadN X0 hx (hb hby d_method_3_code_9) (v := (1 : Int32)) rfl (n := 10) rfl ?_
  refine o_callS X0 hx hZ hown (hw _ (List.mem_of_getElem? (i := 5) rfl)) (hw _ (List.mem_of_getElem? (i := 6) rfl)) (hw _ (List.mem_of_getElem? (i := 7) rfl)) (hw _ (List.mem_of_getElem? (i := 8) rfl)) (by decide) e0 (argsL := [(.int p0), (.int (4 : Int32)), (.int (1 : Int32))]) (rest := []) (c_byteOf_4_1 l Z a0 hw p0 h0) 0 (by decide) (by decide) (by decide) (by decide) (by rw [hml]; rfl) (lenOf o_pd0 rfl) rfl (Nat.le_of_eq rfl) (hb hby d_method_3_code_10) (n := 13) rfl ?_
  intro v1 T1 L1 X1 q1
  obtain ⟨rfl, e1, rfl⟩ := q1
  show Goes p e below s _ _ _ (T1.setTop (mkF m 13 #[.val (.int p0), .val (.int (4 : Int32)), .val (.int (1 : Int32))] [(.int ((128 : Int32) ||| ((p0.toUInt32 >>> (12 : UInt32)).toInt32 &&& (63 : Int32))))]))
  refine o_iloadN X1 hx (hb hby d_method_3_code_13) (v := p0) rfl (n := 14) rfl ?_
  refine o_iloadN X1 hx (hb hby d_method_3_code_14) (v := (4 : Int32)) rfl (n := 15) rfl ?_
  refine o_iloadN X1 hx (hb hby d_method_3_code_15) (v := (1 : Int32)) rfl (n := 16) rfl ?_
  refine o_callS X1 hx hZ hown (hw _ (List.mem_of_getElem? (i := 9) rfl)) (hw _ (List.mem_of_getElem? (i := 10) rfl)) (hw _ (List.mem_of_getElem? (i := 3) rfl)) (hw _ (List.mem_of_getElem? (i := 11) rfl)) (by decide) e1 (argsL := [(.int p0), (.int (4 : Int32)), (.int (1 : Int32))]) (rest := [(.int ((128 : Int32) ||| ((p0.toUInt32 >>> (12 : UInt32)).toInt32 &&& (63 : Int32))))]) (c_ref_4_1 l Z a0 hw p0 h0) 1 (by decide) (by decide) (by decide) (by decide) (by rw [hml]; rfl) (lenOf o_pd0 rfl) rfl (Nat.le_of_eq rfl) (hb hby d_method_3_code_16) (n := 19) rfl ?_
  intro v2 T2 L2 X2 q2
  obtain ⟨rfl, e2, rfl⟩ := q2
  show Goes p e below s _ _ _ (T2.setTop (mkF m 19 #[.val (.int p0), .val (.int (4 : Int32)), .val (.int (1 : Int32))] [(.int ((128 : Int32) + ((p0 / (4096 : Int32)) % (64 : Int32)))), (.int ((128 : Int32) ||| ((p0.toUInt32 >>> (12 : UInt32)).toInt32 &&& (63 : Int32))))]))
  refine o_icmpN X2 hx (hb hby d_method_3_code_19) (XT.ii_ne_f (o_same_4_1 p0 h)) (n := 22) rfl ?_
  refine o_iconst X2 hx (hb hby d_method_3_code_22) (v := (1 : Int32)) rfl (n := 23) rfl ?_
  refine o_goto X2 hx (hb hby d_method_3_code_23) (by decide) (n := 27) (by decide) ?_
  exact o_nreturn X2 hx hret hlk (t := .boolean) (by simp) (hb hby d_method_3_code_27) (by decide) (by decide) e2 ⟨rfl, rfl, rfl⟩
theorem o_ef35 (m : MethodId) (p0 : Int32) : entryFrame m #[(.int p0), (.int (4 : Int32)), (.int (2 : Int32))] 3 = mkF m 0 #[.val (.int p0), .val (.int (4 : Int32)), .val (.int (2 : Int32))] [] := by first | (simp [entryFrame, mkF, argsToLocals, Value.category]; done) | rfl
set_option maxRecDepth 65536 in
set_option maxHeartbeats 40000000 in
theorem c_check_4_2 (l : Launch) (Z : State) (a0 : Array Value) (hw : ∀ d ∈ tables_1, d.before a0 Z = true) (p0 : Int32) (h0 : Heap) (h : 65536 ≤ p0.toInt ∧ p0.toInt < 1114112) :
    Does l Z (⟨"com/example/variform/variform/variant/Utf8ByteOfPinLaw", "check", "(III)Z"⟩ : MethodName) method_3_code 3 (some .boolean) [] ({ frames := 1, cells := 0, slots := 0, locals := 19 } : Room) #[(.int p0), (.int (4 : Int32)), (.int (2 : Int32))] h0 (Pur h0 (.int 1)) := by
  refine Does.of (plainFor_of_name o_pn1) ?_
  intro p e s m below meth c T0 hx hby hml hown hnm hret hlk hZ X0 e0
  have hown : s.vm.findClass "com/example/variform/variform/variant/Utf8ByteOfPinLaw" = some m.cls := hown
  have hml : c.maxLocals = 3 := hml
  have hret : meth.sig.returnType = some .boolean := hret
  refine o_entry (o_ef35 m p0) ?_
  refine o_iloadN X0 hx (hb hby d_method_3_code_0) (v := (2 : Int32)) rfl (n := 1) rfl ?_
  refine o_iloadN X0 hx (hb hby d_method_3_code_1) (v := (4 : Int32)) rfl (n := 2) rfl ?_
  refine o_icmpY X0 hx (hb hby d_method_3_code_2) (XT.ii_lt_t (by decide)) (by decide) (n := 7) (by decide) ?_
  refine o_iloadN X0 hx (hb hby d_method_3_code_7) (v := p0) rfl (n := 8) rfl ?_
  refine o_iloadN X0 hx (hb hby d_method_3_code_8) (v := (4 : Int32)) rfl (n := 9) rfl ?_
  refine o_iloadN X0 hx (hb hby d_method_3_code_9) (v := (2 : Int32)) rfl (n := 10) rfl ?_
  refine o_callS X0 hx hZ hown (hw _ (List.mem_of_getElem? (i := 5) rfl)) (hw _ (List.mem_of_getElem? (i := 6) rfl)) (hw _ (List.mem_of_getElem? (i := 7) rfl)) (hw _ (List.mem_of_getElem? (i := 8) rfl)) (by decide) e0 (argsL := [(.int p0), (.int (4 : Int32)), (.int (2 : Int32))]) (rest := []) (c_byteOf_4_2 l Z a0 hw p0 h0) 0 (by decide) (by decide) (by decide) (by decide) (by rw [hml]; rfl) (lenOf o_pd0 rfl) rfl (Nat.le_of_eq rfl) (hb hby d_method_3_code_10) (n := 13) rfl ?_
  intro v1 T1 L1 X1 q1
  obtain ⟨rfl, e1, rfl⟩ := q1
  show Goes p e below s _ _ _ (T1.setTop (mkF m 13 #[.val (.int p0), .val (.int (4 : Int32)), .val (.int (2 : Int32))] [(.int ((128 : Int32) ||| ((p0.toUInt32 >>> (6 : UInt32)).toInt32 &&& (63 : Int32))))]))
  refine o_iloadN X1 hx (hb hby d_method_3_code_13) (v := p0) rfl (n := 14) rfl ?_
  refine o_iloadN X1 hx (hb hby d_method_3_code_14) (v := (4 : Int32)) rfl (n := 15) rfl ?_
  refine o_iloadN X1 hx (hb hby d_method_3_code_15) (v := (2 : Int32)) rfl (n := 16) rfl ?_
  refine o_callS X1 hx hZ hown (hw _ (List.mem_of_getElem? (i := 9) rfl)) (hw _ (List.mem_of_getElem? (i := 10) rfl)) (hw _ (List.mem_of_getElem? (i := 3) rfl)) (hw _ (List.mem_of_getElem? (i := 11) rfl)) (by decide) e1 (argsL := [(.int p0), (.int (4 : Int32)), (.int (2 : Int32))]) (rest := [(.int ((128 : Int32) ||| ((p0.toUInt32 >>> (6 : UInt32)).toInt32 &&& (63 : Int32))))]) (c_ref_4_2 l Z a0 hw p0 h0) 1 (by decide) (by decide) (by decide) (by decide) (by rw [hml]; rfl) (lenOf o_pd0 rfl) rfl (Nat.le_of_eq rfl) (hb hby d_method_3_code_16) (n := 19) rfl ?_
  intro v2 T2 L2 X2 q2
  obtain ⟨rfl, e2, rfl⟩ := q2
  show Goes p e below s _ _ _ (T2.setTop (mkF m 19 #[.val (.int p0), .val (.int (4 : Int32)), .val (.int (2 : Int32))] [(.int ((128 : Int32) + ((p0 / (64 : Int32)) % (64 : Int32)))), (.int ((128 : Int32) ||| ((p0.toUInt32 >>> (6 : UInt32)).toInt32 &&& (63 : Int32))))]))
  refine o_icmpN X2 hx (hb hby d_method_3_code_19) (XT.ii_ne_f (o_same_4_2 p0 h)) (n := 22) rfl ?_
  refine o_iconst X2 hx (hb hby d_method_3_code_22) (v := (1 : Int32)) rfl (n := 23) rfl ?_
  refine o_goto X2 hx (hb hby d_method_3_code_23) (by decide) (n := 27) (by decide) ?_
  exact o_nreturn X2 hx hret hlk (t := .boolean) (by simp) (hb hby d_method_3_code_27) (by decide) (by decide) e2 ⟨rfl, rfl, rfl⟩
theorem o_ef36 (m : MethodId) (p0 : Int32) : entryFrame m #[(.int p0), (.int (4 : Int32)), (.int (3 : Int32))] 3 = mkF m 0 #[.val (.int p0), .val (.int (4 : Int32)), .val (.int (3 : Int32))] [] := by first | (simp [entryFrame, mkF, argsToLocals, Value.category]; done) | rfl
set_option maxRecDepth 65536 in
set_option maxHeartbeats 40000000 in
theorem c_check_4_3 (l : Launch) (Z : State) (a0 : Array Value) (hw : ∀ d ∈ tables_1, d.before a0 Z = true) (p0 : Int32) (h0 : Heap) (h : 65536 ≤ p0.toInt ∧ p0.toInt < 1114112) :
    Does l Z (⟨"com/example/variform/variform/variant/Utf8ByteOfPinLaw", "check", "(III)Z"⟩ : MethodName) method_3_code 3 (some .boolean) [] ({ frames := 1, cells := 0, slots := 0, locals := 19 } : Room) #[(.int p0), (.int (4 : Int32)), (.int (3 : Int32))] h0 (Pur h0 (.int 1)) := by
  refine Does.of (plainFor_of_name o_pn1) ?_
  intro p e s m below meth c T0 hx hby hml hown hnm hret hlk hZ X0 e0
  have hown : s.vm.findClass "com/example/variform/variform/variant/Utf8ByteOfPinLaw" = some m.cls := hown
  have hml : c.maxLocals = 3 := hml
  have hret : meth.sig.returnType = some .boolean := hret
  refine o_entry (o_ef36 m p0) ?_
  refine o_iloadN X0 hx (hb hby d_method_3_code_0) (v := (3 : Int32)) rfl (n := 1) rfl ?_
  refine o_iloadN X0 hx (hb hby d_method_3_code_1) (v := (4 : Int32)) rfl (n := 2) rfl ?_
  refine o_icmpY X0 hx (hb hby d_method_3_code_2) (XT.ii_lt_t (by decide)) (by decide) (n := 7) (by decide) ?_
  refine o_iloadN X0 hx (hb hby d_method_3_code_7) (v := p0) rfl (n := 8) rfl ?_
  refine o_iloadN X0 hx (hb hby d_method_3_code_8) (v := (4 : Int32)) rfl (n := 9) rfl ?_
  refine o_iloadN X0 hx (hb hby d_method_3_code_9) (v := (3 : Int32)) rfl (n := 10) rfl ?_
  refine o_callS X0 hx hZ hown (hw _ (List.mem_of_getElem? (i := 5) rfl)) (hw _ (List.mem_of_getElem? (i := 6) rfl)) (hw _ (List.mem_of_getElem? (i := 7) rfl)) (hw _ (List.mem_of_getElem? (i := 8) rfl)) (by decide) e0 (argsL := [(.int p0), (.int (4 : Int32)), (.int (3 : Int32))]) (rest := []) (c_byteOf_4_3 l Z a0 hw p0 h0) 0 (by decide) (by decide) (by decide) (by decide) (by rw [hml]; rfl) (lenOf o_pd0 rfl) rfl (Nat.le_of_eq rfl) (hb hby d_method_3_code_10) (n := 13) rfl ?_
  intro v1 T1 L1 X1 q1
  obtain ⟨rfl, e1, rfl⟩ := q1
  show Goes p e below s _ _ _ (T1.setTop (mkF m 13 #[.val (.int p0), .val (.int (4 : Int32)), .val (.int (3 : Int32))] [(.int ((128 : Int32) ||| ((p0.toUInt32 >>> (0 : UInt32)).toInt32 &&& (63 : Int32))))]))
  refine o_iloadN X1 hx (hb hby d_method_3_code_13) (v := p0) rfl (n := 14) rfl ?_
  refine o_iloadN X1 hx (hb hby d_method_3_code_14) (v := (4 : Int32)) rfl (n := 15) rfl ?_
  refine o_iloadN X1 hx (hb hby d_method_3_code_15) (v := (3 : Int32)) rfl (n := 16) rfl ?_
  refine o_callS X1 hx hZ hown (hw _ (List.mem_of_getElem? (i := 9) rfl)) (hw _ (List.mem_of_getElem? (i := 10) rfl)) (hw _ (List.mem_of_getElem? (i := 3) rfl)) (hw _ (List.mem_of_getElem? (i := 11) rfl)) (by decide) e1 (argsL := [(.int p0), (.int (4 : Int32)), (.int (3 : Int32))]) (rest := [(.int ((128 : Int32) ||| ((p0.toUInt32 >>> (0 : UInt32)).toInt32 &&& (63 : Int32))))]) (c_ref_4_3 l Z a0 hw p0 h0) 1 (by decide) (by decide) (by decide) (by decide) (by rw [hml]; rfl) (lenOf o_pd0 rfl) rfl (Nat.le_of_eq rfl) (hb hby d_method_3_code_16) (n := 19) rfl ?_
  intro v2 T2 L2 X2 q2
  obtain ⟨rfl, e2, rfl⟩ := q2
  show Goes p e below s _ _ _ (T2.setTop (mkF m 19 #[.val (.int p0), .val (.int (4 : Int32)), .val (.int (3 : Int32))] [(.int ((128 : Int32) + ((p0 / (1 : Int32)) % (64 : Int32)))), (.int ((128 : Int32) ||| ((p0.toUInt32 >>> (0 : UInt32)).toInt32 &&& (63 : Int32))))]))
  refine o_icmpN X2 hx (hb hby d_method_3_code_19) (XT.ii_ne_f (o_same_4_3 p0 h)) (n := 22) rfl ?_
  refine o_iconst X2 hx (hb hby d_method_3_code_22) (v := (1 : Int32)) rfl (n := 23) rfl ?_
  refine o_goto X2 hx (hb hby d_method_3_code_23) (by decide) (n := 27) (by decide) ?_
  exact o_nreturn X2 hx hret hlk (t := .boolean) (by simp) (hb hby d_method_3_code_27) (by decide) (by decide) e2 ⟨rfl, rfl, rfl⟩
theorem o_pd1 : parseMethodDescriptor "(III)Z" = some ⟨[.int, .int, .int], some .boolean⟩ := by decide +kernel
theorem o_ef37 (m : MethodId) (p0 : Int32) (p1 : Int32) : entryFrame m #[(.int p0), (.int p1)] maxLocals = mkF m 0 #[.val (.int p0), .val (.int p1), .unset, .unset, .unset, .unset, .unset] [] := by first | (simp [entryFrame, mkF, argsToLocals, Value.category, maxLocals]; done) | rfl
set_option maxRecDepth 65536 in
set_option maxHeartbeats 40000000 in
theorem o_law (l : Launch) (Z : State) (a0 : Array Value) (hw : ∀ d ∈ tables_1, d.before a0 Z = true) (p0 : Int32) (p1 : Int32) (h0 : Heap) (n0 : Nat) (Z0 : n0 ≤ h0.size) :
    Does l Z x code maxLocals ret tables_1 room_1 #[(.int p0), (.int p1)] h0 (fun v h L => v = some (.int 1) ∧ Fr n0 L) := by
  refine Does.of (plainFor_of_name o_pn1) ?_
  intro p e s m below meth c T0 hx hby hml hown hnm hret hlk hZ X0 e0
  have hown : s.vm.findClass "com/example/variform/variform/variant/Utf8ByteOfPinLaw" = some m.cls := hown
  have hml : c.maxLocals = 7 := hml
  have hret : meth.sig.returnType = some .boolean := hret
  refine o_entry (o_ef37 m p0 p1) ?_
  have N0 := Fr.nil n0
  rcases o_and3 p0 with q | q | q | q
  · refine o_iloadN X0 hx (hb hby at_0) (v := p0) rfl (n := 1) rfl ?_
    refine o_iconst X0 hx (hb hby at_1) (v := (3 : Int32)) rfl (n := 2) rfl ?_
    refine o_iand X0 hx (hb hby at_2) (v := (0 : Int32)) q (n := 3) rfl ?_
    refine o_istoreN X0 hx (hb hby at_3) (Ls' := #[.val (.int p0), .val (.int p1), .val (.int (0 : Int32)), .unset, .unset, .unset, .unset]) rfl (n := 4) rfl ?_
    refine o_iloadN X0 hx (hb hby at_4) (v := (0 : Int32)) rfl (n := 5) rfl ?_
    refine o_iconst X0 hx (hb hby at_5) (v := (1 : Int32)) rfl (n := 6) rfl ?_
    refine o_iadd X0 hx (hb hby at_6) (v := (1 : Int32)) (by decide) (n := 7) rfl ?_
    refine o_istoreN X0 hx (hb hby at_7) (Ls' := #[.val (.int p0), .val (.int p1), .val (.int (0 : Int32)), .val (.int (1 : Int32)), .unset, .unset, .unset]) rfl (n := 8) rfl ?_
    refine o_iloadN X0 hx (hb hby at_8) (v := (0 : Int32)) rfl (n := 9) rfl ?_
    refine o_ifN X0 hx (hb hby at_9) (XT.i0_ne_f (by decide)) (n := 12) rfl ?_
    refine o_iconst X0 hx (hb hby at_12) (v := (0 : Int32)) rfl (n := 13) rfl ?_
    refine o_goto X0 hx (hb hby at_13) (by decide) (n := 40) (by decide) ?_
    refine o_istore X0 hx (hb hby at_40) (Ls' := #[.val (.int p0), .val (.int p1), .val (.int (0 : Int32)), .val (.int (1 : Int32)), .val (.int (0 : Int32)), .unset, .unset]) rfl (n := 42) rfl ?_
    refine o_iloadN X0 hx (hb hby at_42) (v := (0 : Int32)) rfl (n := 43) rfl ?_
    refine o_ifN X0 hx (hb hby at_43) (XT.i0_ne_f (by decide)) (n := 46) rfl ?_
    refine o_sipush X0 hx (hb hby at_46) (v := (128 : Int32)) rfl (n := 49) rfl ?_
    refine o_goto X0 hx (hb hby at_49) (by decide) (n := 75) (by decide) ?_
    refine o_istore X0 hx (hb hby at_75) (Ls' := #[.val (.int p0), .val (.int p1), .val (.int (0 : Int32)), .val (.int (1 : Int32)), .val (.int (0 : Int32)), .val (.int (128 : Int32)), .unset]) rfl (n := 77) rfl ?_
    refine o_iload X0 hx (hb hby at_77) (v := (0 : Int32)) rfl (n := 79) rfl ?_
    refine o_iloadN X0 hx (hb hby at_79) (v := p1) rfl (n := 80) rfl ?_
    refine o_ldc X0 hx hZ (v := (2147483647 : Int32)) hown (hw _ (List.mem_of_getElem? (i := 0) rfl)) (hb hby at_80) (n := 82) rfl ?_
    refine o_iand X0 hx (hb hby at_82) (v := (p1 &&& (2147483647 : Int32))) rfl (n := 83) rfl ?_
    refine o_iload X0 hx (hb hby at_83) (v := (128 : Int32)) rfl (n := 85) rfl ?_
    refine o_irem X0 hx (hb hby at_85) (by decide) (v := ((p1 &&& (2147483647 : Int32)) % (128 : Int32))) rfl (n := 86) rfl ?_
    refine o_iadd X0 hx (hb hby at_86) (v := ((0 : Int32) + ((p1 &&& (2147483647 : Int32)) % (128 : Int32)))) rfl (n := 87) rfl ?_
    refine o_istore X0 hx (hb hby at_87) (Ls' := #[.val (.int p0), .val (.int p1), .val (.int (0 : Int32)), .val (.int (1 : Int32)), .val (.int (0 : Int32)), .val (.int (128 : Int32)), .val (.int ((0 : Int32) + ((p1 &&& (2147483647 : Int32)) % (128 : Int32))))]) rfl (n := 89) rfl ?_
    generalize h_cp : ((0 : Int32) + ((p1 &&& (2147483647 : Int32)) % (128 : Int32))) = cp
    refine o_iload X0 hx (hb hby at_89) (v := cp) rfl (n := 91) rfl ?_
    refine o_iloadN X0 hx (hb hby at_91) (v := (1 : Int32)) rfl (n := 92) rfl ?_
    refine o_iconst X0 hx (hb hby at_92) (v := (0 : Int32)) rfl (n := 93) rfl ?_
    refine o_callS X0 hx hZ hown (hw _ (List.mem_of_getElem? (i := 1) rfl)) (hw _ (List.mem_of_getElem? (i := 2) rfl)) (hw _ (List.mem_of_getElem? (i := 3) rfl)) (hw _ (List.mem_of_getElem? (i := 4) rfl)) (by decide) e0 (argsL := [(.int cp), (.int (1 : Int32)), (.int (0 : Int32))]) (rest := []) (c_check_1_0 l Z a0 hw cp h0 (o_rng p1 (0 : Int32) (128 : Int32) cp 0 128 rfl rfl (by decide) (by decide) (by decide) h_cp)) 0 (by decide) (by decide) (by decide) (by decide) (by rw [hml]; rfl) (lenOf o_pd1 rfl) rfl (Nat.le_of_eq rfl) (hb hby at_93) (n := 96) rfl ?_
    intro v1 T1 L1 X1 q1
    obtain ⟨rfl, e1, rfl⟩ := q1
    have N2 := Fr.app N0 (Fr.nil n0)
    show Goes p e below s _ _ _ (T1.setTop (mkF m 96 #[.val (.int p0), .val (.int p1), .val (.int (0 : Int32)), .val (.int (1 : Int32)), .val (.int (0 : Int32)), .val (.int (128 : Int32)), .val (.int cp)] [(.int (1 : Int32))]))
    refine o_ifN X1 hx (hb hby at_96) (XT.i0_eq_f (by decide)) (n := 99) rfl ?_
    refine o_iload X1 hx (hb hby at_99) (v := cp) rfl (n := 101) rfl ?_
    refine o_iloadN X1 hx (hb hby at_101) (v := (1 : Int32)) rfl (n := 102) rfl ?_
    refine o_iconst X1 hx (hb hby at_102) (v := (1 : Int32)) rfl (n := 103) rfl ?_
    refine o_callS X1 hx hZ hown (hw _ (List.mem_of_getElem? (i := 1) rfl)) (hw _ (List.mem_of_getElem? (i := 2) rfl)) (hw _ (List.mem_of_getElem? (i := 3) rfl)) (hw _ (List.mem_of_getElem? (i := 4) rfl)) (by decide) e1 (argsL := [(.int cp), (.int (1 : Int32)), (.int (1 : Int32))]) (rest := []) (c_check_1_1 l Z a0 hw cp h0 (o_rng p1 (0 : Int32) (128 : Int32) cp 0 128 rfl rfl (by decide) (by decide) (by decide) h_cp)) 0 (by decide) (by decide) (by decide) (by decide) (by rw [hml]; rfl) (lenOf o_pd1 rfl) rfl (Nat.le_of_eq rfl) (hb hby at_103) (n := 106) rfl ?_
    intro v3 T3 L3 X3 q3
    obtain ⟨rfl, e3, rfl⟩ := q3
    have N4 := Fr.app N2 (Fr.nil n0)
    show Goes p e below s _ _ _ (T3.setTop (mkF m 106 #[.val (.int p0), .val (.int p1), .val (.int (0 : Int32)), .val (.int (1 : Int32)), .val (.int (0 : Int32)), .val (.int (128 : Int32)), .val (.int cp)] [(.int (1 : Int32))]))
    refine o_ifN X3 hx (hb hby at_106) (XT.i0_eq_f (by decide)) (n := 109) rfl ?_
    refine o_iload X3 hx (hb hby at_109) (v := cp) rfl (n := 111) rfl ?_
    refine o_iloadN X3 hx (hb hby at_111) (v := (1 : Int32)) rfl (n := 112) rfl ?_
    refine o_iconst X3 hx (hb hby at_112) (v := (2 : Int32)) rfl (n := 113) rfl ?_
    refine o_callS X3 hx hZ hown (hw _ (List.mem_of_getElem? (i := 1) rfl)) (hw _ (List.mem_of_getElem? (i := 2) rfl)) (hw _ (List.mem_of_getElem? (i := 3) rfl)) (hw _ (List.mem_of_getElem? (i := 4) rfl)) (by decide) e3 (argsL := [(.int cp), (.int (1 : Int32)), (.int (2 : Int32))]) (rest := []) (c_check_1_2 l Z a0 hw cp h0 (o_rng p1 (0 : Int32) (128 : Int32) cp 0 128 rfl rfl (by decide) (by decide) (by decide) h_cp)) 0 (by decide) (by decide) (by decide) (by decide) (by rw [hml]; rfl) (lenOf o_pd1 rfl) rfl (Nat.le_of_eq rfl) (hb hby at_113) (n := 116) rfl ?_
    intro v5 T5 L5 X5 q5
    obtain ⟨rfl, e5, rfl⟩ := q5
    have N6 := Fr.app N4 (Fr.nil n0)
    show Goes p e below s _ _ _ (T5.setTop (mkF m 116 #[.val (.int p0), .val (.int p1), .val (.int (0 : Int32)), .val (.int (1 : Int32)), .val (.int (0 : Int32)), .val (.int (128 : Int32)), .val (.int cp)] [(.int (1 : Int32))]))
    refine o_ifN X5 hx (hb hby at_116) (XT.i0_eq_f (by decide)) (n := 119) rfl ?_
    refine o_iload X5 hx (hb hby at_119) (v := cp) rfl (n := 121) rfl ?_
    refine o_iloadN X5 hx (hb hby at_121) (v := (1 : Int32)) rfl (n := 122) rfl ?_
    refine o_iconst X5 hx (hb hby at_122) (v := (3 : Int32)) rfl (n := 123) rfl ?_
    refine o_callS X5 hx hZ hown (hw _ (List.mem_of_getElem? (i := 1) rfl)) (hw _ (List.mem_of_getElem? (i := 2) rfl)) (hw _ (List.mem_of_getElem? (i := 3) rfl)) (hw _ (List.mem_of_getElem? (i := 4) rfl)) (by decide) e5 (argsL := [(.int cp), (.int (1 : Int32)), (.int (3 : Int32))]) (rest := []) (c_check_1_3 l Z a0 hw cp h0 (o_rng p1 (0 : Int32) (128 : Int32) cp 0 128 rfl rfl (by decide) (by decide) (by decide) h_cp)) 0 (by decide) (by decide) (by decide) (by decide) (by rw [hml]; rfl) (lenOf o_pd1 rfl) rfl (Nat.le_of_eq rfl) (hb hby at_123) (n := 126) rfl ?_
    intro v7 T7 L7 X7 q7
    obtain ⟨rfl, e7, rfl⟩ := q7
    have N8 := Fr.app N6 (Fr.nil n0)
    show Goes p e below s _ _ _ (T7.setTop (mkF m 126 #[.val (.int p0), .val (.int p1), .val (.int (0 : Int32)), .val (.int (1 : Int32)), .val (.int (0 : Int32)), .val (.int (128 : Int32)), .val (.int cp)] [(.int (1 : Int32))]))
    refine o_ifN X7 hx (hb hby at_126) (XT.i0_eq_f (by decide)) (n := 129) rfl ?_
    refine o_iconst X7 hx (hb hby at_129) (v := (1 : Int32)) rfl (n := 130) rfl ?_
    refine o_goto X7 hx (hb hby at_130) (by decide) (n := 134) (by decide) ?_
    exact o_nreturn X7 hx hret hlk (t := .boolean) (by simp) (hb hby at_134) (by decide) (by decide) e7 ⟨rfl, N8⟩
  · refine o_iloadN X0 hx (hb hby at_0) (v := p0) rfl (n := 1) rfl ?_
    refine o_iconst X0 hx (hb hby at_1) (v := (3 : Int32)) rfl (n := 2) rfl ?_
    refine o_iand X0 hx (hb hby at_2) (v := (1 : Int32)) q (n := 3) rfl ?_
    refine o_istoreN X0 hx (hb hby at_3) (Ls' := #[.val (.int p0), .val (.int p1), .val (.int (1 : Int32)), .unset, .unset, .unset, .unset]) rfl (n := 4) rfl ?_
    refine o_iloadN X0 hx (hb hby at_4) (v := (1 : Int32)) rfl (n := 5) rfl ?_
    refine o_iconst X0 hx (hb hby at_5) (v := (1 : Int32)) rfl (n := 6) rfl ?_
    refine o_iadd X0 hx (hb hby at_6) (v := (2 : Int32)) (by decide) (n := 7) rfl ?_
    refine o_istoreN X0 hx (hb hby at_7) (Ls' := #[.val (.int p0), .val (.int p1), .val (.int (1 : Int32)), .val (.int (2 : Int32)), .unset, .unset, .unset]) rfl (n := 8) rfl ?_
    refine o_iloadN X0 hx (hb hby at_8) (v := (1 : Int32)) rfl (n := 9) rfl ?_
    refine o_ifY X0 hx (hb hby at_9) (XT.i0_ne_t (by decide)) (by decide) (n := 16) (by decide) ?_
    refine o_iloadN X0 hx (hb hby at_16) (v := (1 : Int32)) rfl (n := 17) rfl ?_
    refine o_iconst X0 hx (hb hby at_17) (v := (1 : Int32)) rfl (n := 18) rfl ?_
    refine o_icmpN X0 hx (hb hby at_18) (XT.ii_ne_f (by decide)) (n := 21) rfl ?_
    refine o_sipush X0 hx (hb hby at_21) (v := (128 : Int32)) rfl (n := 24) rfl ?_
    refine o_goto X0 hx (hb hby at_24) (by decide) (n := 40) (by decide) ?_
    refine o_istore X0 hx (hb hby at_40) (Ls' := #[.val (.int p0), .val (.int p1), .val (.int (1 : Int32)), .val (.int (2 : Int32)), .val (.int (128 : Int32)), .unset, .unset]) rfl (n := 42) rfl ?_
    refine o_iloadN X0 hx (hb hby at_42) (v := (1 : Int32)) rfl (n := 43) rfl ?_
    refine o_ifY X0 hx (hb hby at_43) (XT.i0_ne_t (by decide)) (by decide) (n := 52) (by decide) ?_
    refine o_iloadN X0 hx (hb hby at_52) (v := (1 : Int32)) rfl (n := 53) rfl ?_
    refine o_iconst X0 hx (hb hby at_53) (v := (1 : Int32)) rfl (n := 54) rfl ?_
    refine o_icmpN X0 hx (hb hby at_54) (XT.ii_ne_f (by decide)) (n := 57) rfl ?_
    refine o_sipush X0 hx (hb hby at_57) (v := (1920 : Int32)) rfl (n := 60) rfl ?_
    refine o_goto X0 hx (hb hby at_60) (by decide) (n := 75) (by decide) ?_
    refine o_istore X0 hx (hb hby at_75) (Ls' := #[.val (.int p0), .val (.int p1), .val (.int (1 : Int32)), .val (.int (2 : Int32)), .val (.int (128 : Int32)), .val (.int (1920 : Int32)), .unset]) rfl (n := 77) rfl ?_
    refine o_iload X0 hx (hb hby at_77) (v := (128 : Int32)) rfl (n := 79) rfl ?_
    refine o_iloadN X0 hx (hb hby at_79) (v := p1) rfl (n := 80) rfl ?_
    refine o_ldc X0 hx hZ (v := (2147483647 : Int32)) hown (hw _ (List.mem_of_getElem? (i := 0) rfl)) (hb hby at_80) (n := 82) rfl ?_
    refine o_iand X0 hx (hb hby at_82) (v := (p1 &&& (2147483647 : Int32))) rfl (n := 83) rfl ?_
    refine o_iload X0 hx (hb hby at_83) (v := (1920 : Int32)) rfl (n := 85) rfl ?_
    refine o_irem X0 hx (hb hby at_85) (by decide) (v := ((p1 &&& (2147483647 : Int32)) % (1920 : Int32))) rfl (n := 86) rfl ?_
    refine o_iadd X0 hx (hb hby at_86) (v := ((128 : Int32) + ((p1 &&& (2147483647 : Int32)) % (1920 : Int32)))) rfl (n := 87) rfl ?_
    refine o_istore X0 hx (hb hby at_87) (Ls' := #[.val (.int p0), .val (.int p1), .val (.int (1 : Int32)), .val (.int (2 : Int32)), .val (.int (128 : Int32)), .val (.int (1920 : Int32)), .val (.int ((128 : Int32) + ((p1 &&& (2147483647 : Int32)) % (1920 : Int32))))]) rfl (n := 89) rfl ?_
    generalize h_cp : ((128 : Int32) + ((p1 &&& (2147483647 : Int32)) % (1920 : Int32))) = cp
    refine o_iload X0 hx (hb hby at_89) (v := cp) rfl (n := 91) rfl ?_
    refine o_iloadN X0 hx (hb hby at_91) (v := (2 : Int32)) rfl (n := 92) rfl ?_
    refine o_iconst X0 hx (hb hby at_92) (v := (0 : Int32)) rfl (n := 93) rfl ?_
    refine o_callS X0 hx hZ hown (hw _ (List.mem_of_getElem? (i := 1) rfl)) (hw _ (List.mem_of_getElem? (i := 2) rfl)) (hw _ (List.mem_of_getElem? (i := 3) rfl)) (hw _ (List.mem_of_getElem? (i := 4) rfl)) (by decide) e0 (argsL := [(.int cp), (.int (2 : Int32)), (.int (0 : Int32))]) (rest := []) (c_check_2_0 l Z a0 hw cp h0 (o_rng p1 (128 : Int32) (1920 : Int32) cp 128 1920 rfl rfl (by decide) (by decide) (by decide) h_cp)) 0 (by decide) (by decide) (by decide) (by decide) (by rw [hml]; rfl) (lenOf o_pd1 rfl) rfl (Nat.le_of_eq rfl) (hb hby at_93) (n := 96) rfl ?_
    intro v9 T9 L9 X9 q9
    obtain ⟨rfl, e9, rfl⟩ := q9
    have N10 := Fr.app N0 (Fr.nil n0)
    show Goes p e below s _ _ _ (T9.setTop (mkF m 96 #[.val (.int p0), .val (.int p1), .val (.int (1 : Int32)), .val (.int (2 : Int32)), .val (.int (128 : Int32)), .val (.int (1920 : Int32)), .val (.int cp)] [(.int (1 : Int32))]))
    refine o_ifN X9 hx (hb hby at_96) (XT.i0_eq_f (by decide)) (n := 99) rfl ?_
    refine o_iload X9 hx (hb hby at_99) (v := cp) rfl (n := 101) rfl ?_
    refine o_iloadN X9 hx (hb hby at_101) (v := (2 : Int32)) rfl (n := 102) rfl ?_
    refine o_iconst X9 hx (hb hby at_102) (v := (1 : Int32)) rfl (n := 103) rfl ?_
    refine o_callS X9 hx hZ hown (hw _ (List.mem_of_getElem? (i := 1) rfl)) (hw _ (List.mem_of_getElem? (i := 2) rfl)) (hw _ (List.mem_of_getElem? (i := 3) rfl)) (hw _ (List.mem_of_getElem? (i := 4) rfl)) (by decide) e9 (argsL := [(.int cp), (.int (2 : Int32)), (.int (1 : Int32))]) (rest := []) (c_check_2_1 l Z a0 hw cp h0 (o_rng p1 (128 : Int32) (1920 : Int32) cp 128 1920 rfl rfl (by decide) (by decide) (by decide) h_cp)) 0 (by decide) (by decide) (by decide) (by decide) (by rw [hml]; rfl) (lenOf o_pd1 rfl) rfl (Nat.le_of_eq rfl) (hb hby at_103) (n := 106) rfl ?_
    intro v11 T11 L11 X11 q11
    obtain ⟨rfl, e11, rfl⟩ := q11
    have N12 := Fr.app N10 (Fr.nil n0)
    show Goes p e below s _ _ _ (T11.setTop (mkF m 106 #[.val (.int p0), .val (.int p1), .val (.int (1 : Int32)), .val (.int (2 : Int32)), .val (.int (128 : Int32)), .val (.int (1920 : Int32)), .val (.int cp)] [(.int (1 : Int32))]))
    refine o_ifN X11 hx (hb hby at_106) (XT.i0_eq_f (by decide)) (n := 109) rfl ?_
    refine o_iload X11 hx (hb hby at_109) (v := cp) rfl (n := 111) rfl ?_
    refine o_iloadN X11 hx (hb hby at_111) (v := (2 : Int32)) rfl (n := 112) rfl ?_
    refine o_iconst X11 hx (hb hby at_112) (v := (2 : Int32)) rfl (n := 113) rfl ?_
    refine o_callS X11 hx hZ hown (hw _ (List.mem_of_getElem? (i := 1) rfl)) (hw _ (List.mem_of_getElem? (i := 2) rfl)) (hw _ (List.mem_of_getElem? (i := 3) rfl)) (hw _ (List.mem_of_getElem? (i := 4) rfl)) (by decide) e11 (argsL := [(.int cp), (.int (2 : Int32)), (.int (2 : Int32))]) (rest := []) (c_check_2_2 l Z a0 hw cp h0 (o_rng p1 (128 : Int32) (1920 : Int32) cp 128 1920 rfl rfl (by decide) (by decide) (by decide) h_cp)) 0 (by decide) (by decide) (by decide) (by decide) (by rw [hml]; rfl) (lenOf o_pd1 rfl) rfl (Nat.le_of_eq rfl) (hb hby at_113) (n := 116) rfl ?_
    intro v13 T13 L13 X13 q13
    obtain ⟨rfl, e13, rfl⟩ := q13
    have N14 := Fr.app N12 (Fr.nil n0)
    show Goes p e below s _ _ _ (T13.setTop (mkF m 116 #[.val (.int p0), .val (.int p1), .val (.int (1 : Int32)), .val (.int (2 : Int32)), .val (.int (128 : Int32)), .val (.int (1920 : Int32)), .val (.int cp)] [(.int (1 : Int32))]))
    refine o_ifN X13 hx (hb hby at_116) (XT.i0_eq_f (by decide)) (n := 119) rfl ?_
    refine o_iload X13 hx (hb hby at_119) (v := cp) rfl (n := 121) rfl ?_
    refine o_iloadN X13 hx (hb hby at_121) (v := (2 : Int32)) rfl (n := 122) rfl ?_
    refine o_iconst X13 hx (hb hby at_122) (v := (3 : Int32)) rfl (n := 123) rfl ?_
    refine o_callS X13 hx hZ hown (hw _ (List.mem_of_getElem? (i := 1) rfl)) (hw _ (List.mem_of_getElem? (i := 2) rfl)) (hw _ (List.mem_of_getElem? (i := 3) rfl)) (hw _ (List.mem_of_getElem? (i := 4) rfl)) (by decide) e13 (argsL := [(.int cp), (.int (2 : Int32)), (.int (3 : Int32))]) (rest := []) (c_check_2_3 l Z a0 hw cp h0 (o_rng p1 (128 : Int32) (1920 : Int32) cp 128 1920 rfl rfl (by decide) (by decide) (by decide) h_cp)) 0 (by decide) (by decide) (by decide) (by decide) (by rw [hml]; rfl) (lenOf o_pd1 rfl) rfl (Nat.le_of_eq rfl) (hb hby at_123) (n := 126) rfl ?_
    intro v15 T15 L15 X15 q15
    obtain ⟨rfl, e15, rfl⟩ := q15
    have N16 := Fr.app N14 (Fr.nil n0)
    show Goes p e below s _ _ _ (T15.setTop (mkF m 126 #[.val (.int p0), .val (.int p1), .val (.int (1 : Int32)), .val (.int (2 : Int32)), .val (.int (128 : Int32)), .val (.int (1920 : Int32)), .val (.int cp)] [(.int (1 : Int32))]))
    refine o_ifN X15 hx (hb hby at_126) (XT.i0_eq_f (by decide)) (n := 129) rfl ?_
    refine o_iconst X15 hx (hb hby at_129) (v := (1 : Int32)) rfl (n := 130) rfl ?_
    refine o_goto X15 hx (hb hby at_130) (by decide) (n := 134) (by decide) ?_
    exact o_nreturn X15 hx hret hlk (t := .boolean) (by simp) (hb hby at_134) (by decide) (by decide) e15 ⟨rfl, N16⟩
  · refine o_iloadN X0 hx (hb hby at_0) (v := p0) rfl (n := 1) rfl ?_
    refine o_iconst X0 hx (hb hby at_1) (v := (3 : Int32)) rfl (n := 2) rfl ?_
    refine o_iand X0 hx (hb hby at_2) (v := (2 : Int32)) q (n := 3) rfl ?_
    refine o_istoreN X0 hx (hb hby at_3) (Ls' := #[.val (.int p0), .val (.int p1), .val (.int (2 : Int32)), .unset, .unset, .unset, .unset]) rfl (n := 4) rfl ?_
    refine o_iloadN X0 hx (hb hby at_4) (v := (2 : Int32)) rfl (n := 5) rfl ?_
    refine o_iconst X0 hx (hb hby at_5) (v := (1 : Int32)) rfl (n := 6) rfl ?_
    refine o_iadd X0 hx (hb hby at_6) (v := (3 : Int32)) (by decide) (n := 7) rfl ?_
    refine o_istoreN X0 hx (hb hby at_7) (Ls' := #[.val (.int p0), .val (.int p1), .val (.int (2 : Int32)), .val (.int (3 : Int32)), .unset, .unset, .unset]) rfl (n := 8) rfl ?_
    refine o_iloadN X0 hx (hb hby at_8) (v := (2 : Int32)) rfl (n := 9) rfl ?_
    refine o_ifY X0 hx (hb hby at_9) (XT.i0_ne_t (by decide)) (by decide) (n := 16) (by decide) ?_
    refine o_iloadN X0 hx (hb hby at_16) (v := (2 : Int32)) rfl (n := 17) rfl ?_
    refine o_iconst X0 hx (hb hby at_17) (v := (1 : Int32)) rfl (n := 18) rfl ?_
    refine o_icmpY X0 hx (hb hby at_18) (XT.ii_ne_t (by decide)) (by decide) (n := 27) (by decide) ?_
    refine o_iloadN X0 hx (hb hby at_27) (v := (2 : Int32)) rfl (n := 28) rfl ?_
    refine o_iconst X0 hx (hb hby at_28) (v := (2 : Int32)) rfl (n := 29) rfl ?_
    refine o_icmpN X0 hx (hb hby at_29) (XT.ii_ne_f (by decide)) (n := 32) rfl ?_
    refine o_sipush X0 hx (hb hby at_32) (v := (2048 : Int32)) rfl (n := 35) rfl ?_
    refine o_goto X0 hx (hb hby at_35) (by decide) (n := 40) (by decide) ?_
    refine o_istore X0 hx (hb hby at_40) (Ls' := #[.val (.int p0), .val (.int p1), .val (.int (2 : Int32)), .val (.int (3 : Int32)), .val (.int (2048 : Int32)), .unset, .unset]) rfl (n := 42) rfl ?_
    refine o_iloadN X0 hx (hb hby at_42) (v := (2 : Int32)) rfl (n := 43) rfl ?_
    refine o_ifY X0 hx (hb hby at_43) (XT.i0_ne_t (by decide)) (by decide) (n := 52) (by decide) ?_
    refine o_iloadN X0 hx (hb hby at_52) (v := (2 : Int32)) rfl (n := 53) rfl ?_
    refine o_iconst X0 hx (hb hby at_53) (v := (1 : Int32)) rfl (n := 54) rfl ?_
    refine o_icmpY X0 hx (hb hby at_54) (XT.ii_ne_t (by decide)) (by decide) (n := 63) (by decide) ?_
    refine o_iloadN X0 hx (hb hby at_63) (v := (2 : Int32)) rfl (n := 64) rfl ?_
    refine o_iconst X0 hx (hb hby at_64) (v := (2 : Int32)) rfl (n := 65) rfl ?_
    refine o_icmpN X0 hx (hb hby at_65) (XT.ii_ne_f (by decide)) (n := 68) rfl ?_
    refine o_ldc X0 hx hZ (v := (63488 : Int32)) hown (hw _ (List.mem_of_getElem? (i := 12) rfl)) (hb hby at_68) (n := 70) rfl ?_
    refine o_goto X0 hx (hb hby at_70) (by decide) (n := 75) (by decide) ?_
    refine o_istore X0 hx (hb hby at_75) (Ls' := #[.val (.int p0), .val (.int p1), .val (.int (2 : Int32)), .val (.int (3 : Int32)), .val (.int (2048 : Int32)), .val (.int (63488 : Int32)), .unset]) rfl (n := 77) rfl ?_
    refine o_iload X0 hx (hb hby at_77) (v := (2048 : Int32)) rfl (n := 79) rfl ?_
    refine o_iloadN X0 hx (hb hby at_79) (v := p1) rfl (n := 80) rfl ?_
    refine o_ldc X0 hx hZ (v := (2147483647 : Int32)) hown (hw _ (List.mem_of_getElem? (i := 0) rfl)) (hb hby at_80) (n := 82) rfl ?_
    refine o_iand X0 hx (hb hby at_82) (v := (p1 &&& (2147483647 : Int32))) rfl (n := 83) rfl ?_
    refine o_iload X0 hx (hb hby at_83) (v := (63488 : Int32)) rfl (n := 85) rfl ?_
    refine o_irem X0 hx (hb hby at_85) (by decide) (v := ((p1 &&& (2147483647 : Int32)) % (63488 : Int32))) rfl (n := 86) rfl ?_
    refine o_iadd X0 hx (hb hby at_86) (v := ((2048 : Int32) + ((p1 &&& (2147483647 : Int32)) % (63488 : Int32)))) rfl (n := 87) rfl ?_
    refine o_istore X0 hx (hb hby at_87) (Ls' := #[.val (.int p0), .val (.int p1), .val (.int (2 : Int32)), .val (.int (3 : Int32)), .val (.int (2048 : Int32)), .val (.int (63488 : Int32)), .val (.int ((2048 : Int32) + ((p1 &&& (2147483647 : Int32)) % (63488 : Int32))))]) rfl (n := 89) rfl ?_
    generalize h_cp : ((2048 : Int32) + ((p1 &&& (2147483647 : Int32)) % (63488 : Int32))) = cp
    refine o_iload X0 hx (hb hby at_89) (v := cp) rfl (n := 91) rfl ?_
    refine o_iloadN X0 hx (hb hby at_91) (v := (3 : Int32)) rfl (n := 92) rfl ?_
    refine o_iconst X0 hx (hb hby at_92) (v := (0 : Int32)) rfl (n := 93) rfl ?_
    refine o_callS X0 hx hZ hown (hw _ (List.mem_of_getElem? (i := 1) rfl)) (hw _ (List.mem_of_getElem? (i := 2) rfl)) (hw _ (List.mem_of_getElem? (i := 3) rfl)) (hw _ (List.mem_of_getElem? (i := 4) rfl)) (by decide) e0 (argsL := [(.int cp), (.int (3 : Int32)), (.int (0 : Int32))]) (rest := []) (c_check_3_0 l Z a0 hw cp h0 (o_rng p1 (2048 : Int32) (63488 : Int32) cp 2048 63488 rfl rfl (by decide) (by decide) (by decide) h_cp)) 0 (by decide) (by decide) (by decide) (by decide) (by rw [hml]; rfl) (lenOf o_pd1 rfl) rfl (Nat.le_of_eq rfl) (hb hby at_93) (n := 96) rfl ?_
    intro v17 T17 L17 X17 q17
    obtain ⟨rfl, e17, rfl⟩ := q17
    have N18 := Fr.app N0 (Fr.nil n0)
    show Goes p e below s _ _ _ (T17.setTop (mkF m 96 #[.val (.int p0), .val (.int p1), .val (.int (2 : Int32)), .val (.int (3 : Int32)), .val (.int (2048 : Int32)), .val (.int (63488 : Int32)), .val (.int cp)] [(.int (1 : Int32))]))
    refine o_ifN X17 hx (hb hby at_96) (XT.i0_eq_f (by decide)) (n := 99) rfl ?_
    refine o_iload X17 hx (hb hby at_99) (v := cp) rfl (n := 101) rfl ?_
    refine o_iloadN X17 hx (hb hby at_101) (v := (3 : Int32)) rfl (n := 102) rfl ?_
    refine o_iconst X17 hx (hb hby at_102) (v := (1 : Int32)) rfl (n := 103) rfl ?_
    refine o_callS X17 hx hZ hown (hw _ (List.mem_of_getElem? (i := 1) rfl)) (hw _ (List.mem_of_getElem? (i := 2) rfl)) (hw _ (List.mem_of_getElem? (i := 3) rfl)) (hw _ (List.mem_of_getElem? (i := 4) rfl)) (by decide) e17 (argsL := [(.int cp), (.int (3 : Int32)), (.int (1 : Int32))]) (rest := []) (c_check_3_1 l Z a0 hw cp h0 (o_rng p1 (2048 : Int32) (63488 : Int32) cp 2048 63488 rfl rfl (by decide) (by decide) (by decide) h_cp)) 0 (by decide) (by decide) (by decide) (by decide) (by rw [hml]; rfl) (lenOf o_pd1 rfl) rfl (Nat.le_of_eq rfl) (hb hby at_103) (n := 106) rfl ?_
    intro v19 T19 L19 X19 q19
    obtain ⟨rfl, e19, rfl⟩ := q19
    have N20 := Fr.app N18 (Fr.nil n0)
    show Goes p e below s _ _ _ (T19.setTop (mkF m 106 #[.val (.int p0), .val (.int p1), .val (.int (2 : Int32)), .val (.int (3 : Int32)), .val (.int (2048 : Int32)), .val (.int (63488 : Int32)), .val (.int cp)] [(.int (1 : Int32))]))
    refine o_ifN X19 hx (hb hby at_106) (XT.i0_eq_f (by decide)) (n := 109) rfl ?_
    refine o_iload X19 hx (hb hby at_109) (v := cp) rfl (n := 111) rfl ?_
    refine o_iloadN X19 hx (hb hby at_111) (v := (3 : Int32)) rfl (n := 112) rfl ?_
    refine o_iconst X19 hx (hb hby at_112) (v := (2 : Int32)) rfl (n := 113) rfl ?_
    refine o_callS X19 hx hZ hown (hw _ (List.mem_of_getElem? (i := 1) rfl)) (hw _ (List.mem_of_getElem? (i := 2) rfl)) (hw _ (List.mem_of_getElem? (i := 3) rfl)) (hw _ (List.mem_of_getElem? (i := 4) rfl)) (by decide) e19 (argsL := [(.int cp), (.int (3 : Int32)), (.int (2 : Int32))]) (rest := []) (c_check_3_2 l Z a0 hw cp h0 (o_rng p1 (2048 : Int32) (63488 : Int32) cp 2048 63488 rfl rfl (by decide) (by decide) (by decide) h_cp)) 0 (by decide) (by decide) (by decide) (by decide) (by rw [hml]; rfl) (lenOf o_pd1 rfl) rfl (Nat.le_of_eq rfl) (hb hby at_113) (n := 116) rfl ?_
    intro v21 T21 L21 X21 q21
    obtain ⟨rfl, e21, rfl⟩ := q21
    have N22 := Fr.app N20 (Fr.nil n0)
    show Goes p e below s _ _ _ (T21.setTop (mkF m 116 #[.val (.int p0), .val (.int p1), .val (.int (2 : Int32)), .val (.int (3 : Int32)), .val (.int (2048 : Int32)), .val (.int (63488 : Int32)), .val (.int cp)] [(.int (1 : Int32))]))
    refine o_ifN X21 hx (hb hby at_116) (XT.i0_eq_f (by decide)) (n := 119) rfl ?_
    refine o_iload X21 hx (hb hby at_119) (v := cp) rfl (n := 121) rfl ?_
    refine o_iloadN X21 hx (hb hby at_121) (v := (3 : Int32)) rfl (n := 122) rfl ?_
    refine o_iconst X21 hx (hb hby at_122) (v := (3 : Int32)) rfl (n := 123) rfl ?_
    refine o_callS X21 hx hZ hown (hw _ (List.mem_of_getElem? (i := 1) rfl)) (hw _ (List.mem_of_getElem? (i := 2) rfl)) (hw _ (List.mem_of_getElem? (i := 3) rfl)) (hw _ (List.mem_of_getElem? (i := 4) rfl)) (by decide) e21 (argsL := [(.int cp), (.int (3 : Int32)), (.int (3 : Int32))]) (rest := []) (c_check_3_3 l Z a0 hw cp h0 (o_rng p1 (2048 : Int32) (63488 : Int32) cp 2048 63488 rfl rfl (by decide) (by decide) (by decide) h_cp)) 0 (by decide) (by decide) (by decide) (by decide) (by rw [hml]; rfl) (lenOf o_pd1 rfl) rfl (Nat.le_of_eq rfl) (hb hby at_123) (n := 126) rfl ?_
    intro v23 T23 L23 X23 q23
    obtain ⟨rfl, e23, rfl⟩ := q23
    have N24 := Fr.app N22 (Fr.nil n0)
    show Goes p e below s _ _ _ (T23.setTop (mkF m 126 #[.val (.int p0), .val (.int p1), .val (.int (2 : Int32)), .val (.int (3 : Int32)), .val (.int (2048 : Int32)), .val (.int (63488 : Int32)), .val (.int cp)] [(.int (1 : Int32))]))
    refine o_ifN X23 hx (hb hby at_126) (XT.i0_eq_f (by decide)) (n := 129) rfl ?_
    refine o_iconst X23 hx (hb hby at_129) (v := (1 : Int32)) rfl (n := 130) rfl ?_
    refine o_goto X23 hx (hb hby at_130) (by decide) (n := 134) (by decide) ?_
    exact o_nreturn X23 hx hret hlk (t := .boolean) (by simp) (hb hby at_134) (by decide) (by decide) e23 ⟨rfl, N24⟩
  · refine o_iloadN X0 hx (hb hby at_0) (v := p0) rfl (n := 1) rfl ?_
    refine o_iconst X0 hx (hb hby at_1) (v := (3 : Int32)) rfl (n := 2) rfl ?_
    refine o_iand X0 hx (hb hby at_2) (v := (3 : Int32)) q (n := 3) rfl ?_
    refine o_istoreN X0 hx (hb hby at_3) (Ls' := #[.val (.int p0), .val (.int p1), .val (.int (3 : Int32)), .unset, .unset, .unset, .unset]) rfl (n := 4) rfl ?_
    refine o_iloadN X0 hx (hb hby at_4) (v := (3 : Int32)) rfl (n := 5) rfl ?_
    refine o_iconst X0 hx (hb hby at_5) (v := (1 : Int32)) rfl (n := 6) rfl ?_
    refine o_iadd X0 hx (hb hby at_6) (v := (4 : Int32)) (by decide) (n := 7) rfl ?_
    refine o_istoreN X0 hx (hb hby at_7) (Ls' := #[.val (.int p0), .val (.int p1), .val (.int (3 : Int32)), .val (.int (4 : Int32)), .unset, .unset, .unset]) rfl (n := 8) rfl ?_
    refine o_iloadN X0 hx (hb hby at_8) (v := (3 : Int32)) rfl (n := 9) rfl ?_
    refine o_ifY X0 hx (hb hby at_9) (XT.i0_ne_t (by decide)) (by decide) (n := 16) (by decide) ?_
    refine o_iloadN X0 hx (hb hby at_16) (v := (3 : Int32)) rfl (n := 17) rfl ?_
    refine o_iconst X0 hx (hb hby at_17) (v := (1 : Int32)) rfl (n := 18) rfl ?_
    refine o_icmpY X0 hx (hb hby at_18) (XT.ii_ne_t (by decide)) (by decide) (n := 27) (by decide) ?_
    refine o_iloadN X0 hx (hb hby at_27) (v := (3 : Int32)) rfl (n := 28) rfl ?_
    refine o_iconst X0 hx (hb hby at_28) (v := (2 : Int32)) rfl (n := 29) rfl ?_
    refine o_icmpY X0 hx (hb hby at_29) (XT.ii_ne_t (by decide)) (by decide) (n := 38) (by decide) ?_
    refine o_ldc X0 hx hZ (v := (65536 : Int32)) hown (hw _ (List.mem_of_getElem? (i := 14) rfl)) (hb hby at_38) (n := 40) rfl ?_
    refine o_istore X0 hx (hb hby at_40) (Ls' := #[.val (.int p0), .val (.int p1), .val (.int (3 : Int32)), .val (.int (4 : Int32)), .val (.int (65536 : Int32)), .unset, .unset]) rfl (n := 42) rfl ?_
    refine o_iloadN X0 hx (hb hby at_42) (v := (3 : Int32)) rfl (n := 43) rfl ?_
    refine o_ifY X0 hx (hb hby at_43) (XT.i0_ne_t (by decide)) (by decide) (n := 52) (by decide) ?_
    refine o_iloadN X0 hx (hb hby at_52) (v := (3 : Int32)) rfl (n := 53) rfl ?_
    refine o_iconst X0 hx (hb hby at_53) (v := (1 : Int32)) rfl (n := 54) rfl ?_
    refine o_icmpY X0 hx (hb hby at_54) (XT.ii_ne_t (by decide)) (by decide) (n := 63) (by decide) ?_
    refine o_iloadN X0 hx (hb hby at_63) (v := (3 : Int32)) rfl (n := 64) rfl ?_
    refine o_iconst X0 hx (hb hby at_64) (v := (2 : Int32)) rfl (n := 65) rfl ?_
    refine o_icmpY X0 hx (hb hby at_65) (XT.ii_ne_t (by decide)) (by decide) (n := 73) (by decide) ?_
    refine o_ldc X0 hx hZ (v := (1048576 : Int32)) hown (hw _ (List.mem_of_getElem? (i := 15) rfl)) (hb hby at_73) (n := 75) rfl ?_
    refine o_istore X0 hx (hb hby at_75) (Ls' := #[.val (.int p0), .val (.int p1), .val (.int (3 : Int32)), .val (.int (4 : Int32)), .val (.int (65536 : Int32)), .val (.int (1048576 : Int32)), .unset]) rfl (n := 77) rfl ?_
    refine o_iload X0 hx (hb hby at_77) (v := (65536 : Int32)) rfl (n := 79) rfl ?_
    refine o_iloadN X0 hx (hb hby at_79) (v := p1) rfl (n := 80) rfl ?_
    refine o_ldc X0 hx hZ (v := (2147483647 : Int32)) hown (hw _ (List.mem_of_getElem? (i := 0) rfl)) (hb hby at_80) (n := 82) rfl ?_
    refine o_iand X0 hx (hb hby at_82) (v := (p1 &&& (2147483647 : Int32))) rfl (n := 83) rfl ?_
    refine o_iload X0 hx (hb hby at_83) (v := (1048576 : Int32)) rfl (n := 85) rfl ?_
    refine o_irem X0 hx (hb hby at_85) (by decide) (v := ((p1 &&& (2147483647 : Int32)) % (1048576 : Int32))) rfl (n := 86) rfl ?_
    refine o_iadd X0 hx (hb hby at_86) (v := ((65536 : Int32) + ((p1 &&& (2147483647 : Int32)) % (1048576 : Int32)))) rfl (n := 87) rfl ?_
    refine o_istore X0 hx (hb hby at_87) (Ls' := #[.val (.int p0), .val (.int p1), .val (.int (3 : Int32)), .val (.int (4 : Int32)), .val (.int (65536 : Int32)), .val (.int (1048576 : Int32)), .val (.int ((65536 : Int32) + ((p1 &&& (2147483647 : Int32)) % (1048576 : Int32))))]) rfl (n := 89) rfl ?_
    generalize h_cp : ((65536 : Int32) + ((p1 &&& (2147483647 : Int32)) % (1048576 : Int32))) = cp
    refine o_iload X0 hx (hb hby at_89) (v := cp) rfl (n := 91) rfl ?_
    refine o_iloadN X0 hx (hb hby at_91) (v := (4 : Int32)) rfl (n := 92) rfl ?_
    refine o_iconst X0 hx (hb hby at_92) (v := (0 : Int32)) rfl (n := 93) rfl ?_
    refine o_callS X0 hx hZ hown (hw _ (List.mem_of_getElem? (i := 1) rfl)) (hw _ (List.mem_of_getElem? (i := 2) rfl)) (hw _ (List.mem_of_getElem? (i := 3) rfl)) (hw _ (List.mem_of_getElem? (i := 4) rfl)) (by decide) e0 (argsL := [(.int cp), (.int (4 : Int32)), (.int (0 : Int32))]) (rest := []) (c_check_4_0 l Z a0 hw cp h0 (o_rng p1 (65536 : Int32) (1048576 : Int32) cp 65536 1048576 rfl rfl (by decide) (by decide) (by decide) h_cp)) 0 (by decide) (by decide) (by decide) (by decide) (by rw [hml]; rfl) (lenOf o_pd1 rfl) rfl (Nat.le_of_eq rfl) (hb hby at_93) (n := 96) rfl ?_
    intro v25 T25 L25 X25 q25
    obtain ⟨rfl, e25, rfl⟩ := q25
    have N26 := Fr.app N0 (Fr.nil n0)
    show Goes p e below s _ _ _ (T25.setTop (mkF m 96 #[.val (.int p0), .val (.int p1), .val (.int (3 : Int32)), .val (.int (4 : Int32)), .val (.int (65536 : Int32)), .val (.int (1048576 : Int32)), .val (.int cp)] [(.int (1 : Int32))]))
    refine o_ifN X25 hx (hb hby at_96) (XT.i0_eq_f (by decide)) (n := 99) rfl ?_
    refine o_iload X25 hx (hb hby at_99) (v := cp) rfl (n := 101) rfl ?_
    refine o_iloadN X25 hx (hb hby at_101) (v := (4 : Int32)) rfl (n := 102) rfl ?_
    refine o_iconst X25 hx (hb hby at_102) (v := (1 : Int32)) rfl (n := 103) rfl ?_
    refine o_callS X25 hx hZ hown (hw _ (List.mem_of_getElem? (i := 1) rfl)) (hw _ (List.mem_of_getElem? (i := 2) rfl)) (hw _ (List.mem_of_getElem? (i := 3) rfl)) (hw _ (List.mem_of_getElem? (i := 4) rfl)) (by decide) e25 (argsL := [(.int cp), (.int (4 : Int32)), (.int (1 : Int32))]) (rest := []) (c_check_4_1 l Z a0 hw cp h0 (o_rng p1 (65536 : Int32) (1048576 : Int32) cp 65536 1048576 rfl rfl (by decide) (by decide) (by decide) h_cp)) 0 (by decide) (by decide) (by decide) (by decide) (by rw [hml]; rfl) (lenOf o_pd1 rfl) rfl (Nat.le_of_eq rfl) (hb hby at_103) (n := 106) rfl ?_
    intro v27 T27 L27 X27 q27
    obtain ⟨rfl, e27, rfl⟩ := q27
    have N28 := Fr.app N26 (Fr.nil n0)
    show Goes p e below s _ _ _ (T27.setTop (mkF m 106 #[.val (.int p0), .val (.int p1), .val (.int (3 : Int32)), .val (.int (4 : Int32)), .val (.int (65536 : Int32)), .val (.int (1048576 : Int32)), .val (.int cp)] [(.int (1 : Int32))]))
    refine o_ifN X27 hx (hb hby at_106) (XT.i0_eq_f (by decide)) (n := 109) rfl ?_
    refine o_iload X27 hx (hb hby at_109) (v := cp) rfl (n := 111) rfl ?_
    refine o_iloadN X27 hx (hb hby at_111) (v := (4 : Int32)) rfl (n := 112) rfl ?_
    refine o_iconst X27 hx (hb hby at_112) (v := (2 : Int32)) rfl (n := 113) rfl ?_
    refine o_callS X27 hx hZ hown (hw _ (List.mem_of_getElem? (i := 1) rfl)) (hw _ (List.mem_of_getElem? (i := 2) rfl)) (hw _ (List.mem_of_getElem? (i := 3) rfl)) (hw _ (List.mem_of_getElem? (i := 4) rfl)) (by decide) e27 (argsL := [(.int cp), (.int (4 : Int32)), (.int (2 : Int32))]) (rest := []) (c_check_4_2 l Z a0 hw cp h0 (o_rng p1 (65536 : Int32) (1048576 : Int32) cp 65536 1048576 rfl rfl (by decide) (by decide) (by decide) h_cp)) 0 (by decide) (by decide) (by decide) (by decide) (by rw [hml]; rfl) (lenOf o_pd1 rfl) rfl (Nat.le_of_eq rfl) (hb hby at_113) (n := 116) rfl ?_
    intro v29 T29 L29 X29 q29
    obtain ⟨rfl, e29, rfl⟩ := q29
    have N30 := Fr.app N28 (Fr.nil n0)
    show Goes p e below s _ _ _ (T29.setTop (mkF m 116 #[.val (.int p0), .val (.int p1), .val (.int (3 : Int32)), .val (.int (4 : Int32)), .val (.int (65536 : Int32)), .val (.int (1048576 : Int32)), .val (.int cp)] [(.int (1 : Int32))]))
    refine o_ifN X29 hx (hb hby at_116) (XT.i0_eq_f (by decide)) (n := 119) rfl ?_
    refine o_iload X29 hx (hb hby at_119) (v := cp) rfl (n := 121) rfl ?_
    refine o_iloadN X29 hx (hb hby at_121) (v := (4 : Int32)) rfl (n := 122) rfl ?_
    refine o_iconst X29 hx (hb hby at_122) (v := (3 : Int32)) rfl (n := 123) rfl ?_
    refine o_callS X29 hx hZ hown (hw _ (List.mem_of_getElem? (i := 1) rfl)) (hw _ (List.mem_of_getElem? (i := 2) rfl)) (hw _ (List.mem_of_getElem? (i := 3) rfl)) (hw _ (List.mem_of_getElem? (i := 4) rfl)) (by decide) e29 (argsL := [(.int cp), (.int (4 : Int32)), (.int (3 : Int32))]) (rest := []) (c_check_4_3 l Z a0 hw cp h0 (o_rng p1 (65536 : Int32) (1048576 : Int32) cp 65536 1048576 rfl rfl (by decide) (by decide) (by decide) h_cp)) 0 (by decide) (by decide) (by decide) (by decide) (by rw [hml]; rfl) (lenOf o_pd1 rfl) rfl (Nat.le_of_eq rfl) (hb hby at_123) (n := 126) rfl ?_
    intro v31 T31 L31 X31 q31
    obtain ⟨rfl, e31, rfl⟩ := q31
    have N32 := Fr.app N30 (Fr.nil n0)
    show Goes p e below s _ _ _ (T31.setTop (mkF m 126 #[.val (.int p0), .val (.int p1), .val (.int (3 : Int32)), .val (.int (4 : Int32)), .val (.int (65536 : Int32)), .val (.int (1048576 : Int32)), .val (.int cp)] [(.int (1 : Int32))]))
    refine o_ifN X31 hx (hb hby at_126) (XT.i0_eq_f (by decide)) (n := 129) rfl ?_
    refine o_iconst X31 hx (hb hby at_129) (v := (1 : Int32)) rfl (n := 130) rfl ?_
    refine o_goto X31 hx (hb hby at_130) (by decide) (n := 134) (by decide) ?_
    exact o_nreturn X31 hx hret hlk (t := .boolean) (by simp) (hb hby at_134) (by decide) (by decide) e31 ⟨rfl, N32⟩
set_option maxRecDepth 65536 in
set_option maxHeartbeats 40000000 in
theorem comes_1 {Post : Tables → Env → Array Value → State → Outcome → State → Prop} (hpost : ∀ tb e args s v u, (limb_1_1.after args s (.returned v) u = true ∧ limb_1_2.after args s (.returned v) u = true ∧ True) → FrameEnd s (.returned v) u (Jvm.fieldLocs frame_1_writes args s ++ Jvm.arrayLocs frame_1_arrays args s ++ Jvm.staticLocs frame_1_statics s) 0 0 → Post tb e args s (.returned v) u) :
    ArmFor flags0 classFile x code maxLocals ret World_1 tables_1 room_1 Calls_1 rest_1 Pre_1 Post := by
  intro l hfl _ _ p e ha hc hk s m args below hf hA hF happ hP
  obtain ⟨hcalls, hrest, hpre⟩ := hP
  obtain ⟨-, -, -, hnamed, -, -, -, hat⟩ := (Spec.applies_iff hf).mp happ
  obtain ⟨hg, hn⟩ := and_e (Cond.before_iff.mp (show (Jvm.Cond.and given_1 narrow_1).before args s = true from hpre))
  obtain ⟨gv1, gv2⟩ := and_e hg
  obtain ⟨gv3, gv4⟩ := and_e gv2
  obtain ⟨w0, w1, rfl⟩ : ∃ w0 w1 : Value, args = #[w0, w1] := by
    have hs : args.size = 2 := by simpa [Cond.value, given_1] using gv1
    obtain ⟨L⟩ := args
    match L, hs with
    | [w0, w1], _ => exact ⟨w0, w1, rfl⟩
  have hw := fun d (hd : d ∈ tables_1) => atoms_spec (ws := Jvm.Cond.code x code maxLocals ret :: tables_1) hat d (List.mem_cons_of_mem _ hd)
  have hfit : Fit s := fun {y c} hc i hi => by
    obtain ⟨ha, rfl⟩ := Array.getElem?_eq_some_iff.mp hc
    have q := List.all_eq_true.mp ((Array.all_eq_true_iff_forall_mem.mp hF) _ (Array.getElem_mem ha)) i (List.mem_range.mpr hi)
    simpa [Array.getElem?_eq_getElem hi] using q
  obtain ⟨i0, ei0⟩ := is_v gv3
  obtain rfl : w0 = (.int i0) := Option.some.inj ei0
  obtain ⟨i1, ei1⟩ := is_v gv4
  obtain rfl : w1 = (.int i1) := Option.some.inj ei1
  obtain ⟨n, o, h1, h2, h3, _, L, rfl, ⟨rfl, N⟩, hq⟩ := o_law l s _ hw i0 i1 s.heap s.heap.size (Nat.le_refl _) p e ha hc hk s m _ below hf ((Spec.applies_iff_loose hf).mp happ).1 ⟨rfl, State.Warmed39.refl s, rfl⟩ trivial
  refine ⟨n, _, h1, h2, h3, hpost _ _ _ _ _ _ ⟨Cond.after_iff.mpr rfl, Cond.after_iff.mpr (eq_i res_at (Term.int_eval (1)) rfl), trivial⟩ ⟨hq.1, hq.2.1, (hq.2.2.sift fun y hy => Or.inr (N y hy)).mono (by decide) (by decide)⟩⟩
theorem main_1_1 : Claimed_1_1 := comes_1 fun _ _ _ _ _ _ h hF => ⟨h.1, hF⟩
theorem main_1_2 : Claimed_1_2 := comes_1 fun _ _ _ _ _ _ h hF => ⟨h.2.1, hF⟩
end Jvm.Pilot.@@N@@
namespace Jvm.Pilot.@@N@@
open Jvm Jvm.ClassFile Sem Op Lib Jvm.Free Jvm.Stand Jvm.Pilot.@@N@@.Jvm.D
/-! MADE BY PROGRAM (witnessworld.py) out of the Statement's table words and the real class files: 9 classes; the members and pool entries that the words name. The judged class is class 1, her method 3. -/
namespace start1
open Jvm.ClassFile
def u (s : String) : CpInfo := .utf8 (stringToUtf16 s)
/-- a pool by its gaps: so many unusable entries, then the entry; so many at the end -/
def gap : Nat → List CpInfo → List CpInfo
  | 0, r => r
  | n + 1, r => .unusable :: gap n r
def poolList (es : List (Nat × CpInfo)) (last : Nat) : List CpInfo := es.foldr (fun e r => gap e.1 (e.2 :: r)) (gap last [])
def pool (es : List (Nat × CpInfo)) (last : Nat) : Array CpInfo := ⟨poolList es last⟩
def fileOf (pool : Array CpInfo) (this : Nat) (attrs : Array Attribute := #[]) (ms : Array MethodInfo := #[]) (fl : Nat := 33) (sup : Nat := 0) (ifs : Array Nat := #[]) (fds : Array FieldInfo := #[]) : ClassFile where
  minorVersion := 0
  majorVersion := 65
  constantPool := pool
  accessFlags := fl
  thisClass := this
  superClass := sup
  interfaces := ifs
  fields := fds
  methods := ms
  attributes := attrs
def plain (name : String) (sup : Option ClassId) : Class where
  name := name
  kind := .ordinary
  loader := none
  accessFlags := 33
  super := sup
  interfaces := #[]
  cf := none
  fields := #[]
  methods := #[]
  instanceTypes := #[]
  staticTypes := #[]
  resolved := #[]
  callSites := []
  init := .initialized
  statics := none
  mirror := none

def pool0 : Array CpInfo := pool [(5, u "<init>"), (0, u "()V"), (1, .class_ 10), (1, u "java/lang/Object")] 113

def k0m0 : Method := { name := "<init>", desc := "()V", sig := { parameters := [], returnType := none }, accessFlags := 1, code := none }
/-- java/lang/Object -/
def k0 : Class := { plain "java/lang/Object" none with
  accessFlags := 33
  interfaces := #[]
  cf := some (fileOf pool0 8 #[] #[{ accessFlags := 1, nameIndex := 5, descriptorIndex := 6, attributes := #[] }] 33 0 #[] #[])
  fields := #[]
  methods := #[k0m0]
  instanceTypes := #[]
  staticTypes := #[]
  resolved := Array.replicate 124 none
  statics := none }

def pool1 : Array CpInfo := pool [(2, .class_ 4), (1, u "java/lang/Object"), (0, u "<init>"), (0, u "()V"), (0, .integer 262144), (0, .methodref 9 10), (0, .class_ 11), (0, .nameAndType 12 13), (0, u "com/example/variform/variform/variant/Utf8"), (0, u "byteOf"), (0, u "(III)I"), (0, .methodref 15 16), (0, .class_ 17), (0, .nameAndType 18 13), (0, u "com/example/variform/variform/variant/Utf8ByteOfPinLaw"), (0, u "ref"), (0, .integer 65536), (0, .integer 63488), (0, .integer 1048576), (0, .integer 2147483647), (0, .methodref 15 24), (0, .nameAndType 25 26), (0, u "check"), (0, u "(III)Z"), (3, u "law"), (0, u "(II)Z")] 2

def k1m0 : Method := { name := "<init>", desc := "()V", sig := { parameters := [], returnType := none }, accessFlags := 2, code := none }
def k1c1 : Code := { maxStack := 3, maxLocals := 7, code := method_2_code, exceptionTable := #[], attributes := #[] }
def k1m1 : Method := { name := "ref", desc := "(III)I", sig := { parameters := [.int, .int, .int], returnType := some .int }, accessFlags := 10, code := some k1c1 }
def k1c2 : Code := { maxStack := 4, maxLocals := 3, code := method_3_code, exceptionTable := #[], attributes := #[] }
def k1m2 : Method := { name := "check", desc := "(III)Z", sig := { parameters := [.int, .int, .int], returnType := some .boolean }, accessFlags := 10, code := some k1c2 }
def k1c3 : Code := { maxStack := 3, maxLocals := 7, code := code, exceptionTable := #[], attributes := #[] }
def k1m3 : Method := { name := "law", desc := "(II)Z", sig := { parameters := [.int, .int], returnType := some .boolean }, accessFlags := 9, code := some k1c3 }
/-- com/example/variform/variform/variant/Utf8ByteOfPinLaw -/
def k1 : Class := { plain "com/example/variform/variform/variant/Utf8ByteOfPinLaw" (some 0) with
  accessFlags := 49
  interfaces := #[]
  cf := some (fileOf pool1 15 #[] #[{ accessFlags := 2, nameIndex := 5, descriptorIndex := 6, attributes := #[] }, { accessFlags := 10, nameIndex := 18, descriptorIndex := 13, attributes := #[] }, { accessFlags := 10, nameIndex := 25, descriptorIndex := 26, attributes := #[] }, { accessFlags := 9, nameIndex := 30, descriptorIndex := 31, attributes := #[] }] 49 2 #[] #[])
  fields := #[]
  methods := #[k1m0, k1m1, k1m2, k1m3]
  instanceTypes := #[]
  staticTypes := #[]
  resolved := Array.replicate 34 none
  statics := none }

def pool2 : Array CpInfo := pool [(2, .class_ 4), (1, u "java/lang/Object"), (0, u "<init>"), (0, u "()V"), (17, .class_ 26), (1, u "com/example/variform/variform/variant/Utf8"), (61, u "byteOf"), (0, u "(III)I"), (3, .integer 65280), (2, u "NOT_ASCII"), (0, u "J")] 13

def k2m0 : Method := { name := "<init>", desc := "()V", sig := { parameters := [], returnType := none }, accessFlags := 2, code := none }
def k2c1 : Code := { maxStack := 3, maxLocals := 4, code := prog_28_method_8_code, exceptionTable := #[], attributes := #[] }
def k2m1 : Method := { name := "byteOf", desc := "(III)I", sig := { parameters := [.int, .int, .int], returnType := some .int }, accessFlags := 8, code := some k2c1 }
/-- com/example/variform/variform/variant/Utf8 -/
def k2 : Class := { plain "com/example/variform/variform/variant/Utf8" (some 0) with
  accessFlags := 48
  interfaces := #[]
  cf := some (fileOf pool2 24 #[] #[{ accessFlags := 2, nameIndex := 5, descriptorIndex := 6, attributes := #[] }, { accessFlags := 8, nameIndex := 88, descriptorIndex := 89, attributes := #[] }] 48 2 #[] #[{ accessFlags := 24, nameIndex := 96, descriptorIndex := 97, attributes := #[] }])
  fields := #[{ name := "NOT_ASCII", type := .long, accessFlags := 24, slot := 0, constantValue := 0 }]
  methods := #[k2m0, k2m1]
  instanceTypes := #[]
  staticTypes := #[.long]
  resolved := Array.replicate 111 none
  statics := none }

def pool3 : Array CpInfo := pool [(1, u "java/lang/Cloneable"), (0, .class_ 1), (0, u "java/lang/Object"), (0, .class_ 3)] 3

/-- java/lang/Cloneable -/
def k3 : Class := { plain "java/lang/Cloneable" (some 0) with
  accessFlags := 1537
  interfaces := #[]
  cf := some (fileOf pool3 2 #[] #[] 1537 4 #[] #[])
  fields := #[]
  methods := #[]
  instanceTypes := #[]
  staticTypes := #[]
  resolved := Array.replicate 8 none
  statics := none }

def pool4 : Array CpInfo := pool [(1, u "java/io/Serializable"), (0, .class_ 1), (0, u "java/lang/Object"), (0, .class_ 3)] 3

/-- java/io/Serializable -/
def k4 : Class := { plain "java/io/Serializable" (some 0) with
  accessFlags := 1537
  interfaces := #[]
  cf := some (fileOf pool4 2 #[] #[] 1537 4 #[] #[])
  fields := #[]
  methods := #[]
  instanceTypes := #[]
  staticTypes := #[]
  resolved := Array.replicate 8 none
  statics := none }

/-- the primitive byte -/
def k5 : Class := { plain "byte" none with kind := .primitive 'B', accessFlags := 0x411 }
/-- [B -/
def k6 : Class := { plain "[B" (some 0) with kind := .array 5 .byte, interfaces := #[3, 4], accessFlags := 1041 }

/-- the primitive int -/
def k7 : Class := { plain "int" none with kind := .primitive 'I', accessFlags := 0x411 }
/-- [I -/
def k8 : Class := { plain "[I" (some 0) with kind := .array 7 .int, interfaces := #[3, 4], accessFlags := 1041 }

def heap : Heap := #[]
def classes : Array Class := #[k0, k1, k2, k3, k4, k5, k6, k7, k8]
def interned : List (Array UInt16 × Addr) := []
def slotsUsed : Nat := 0
def theMethod : MethodId := ⟨1, 3⟩
def args0 : Array Value := #[.int 5, .int 5]
def aboutOver (below : List Frame) : State where
  vm := { classes := classes, interned := interned.toArray }
  heap := heap
  slotsUsed := slotsUsed
  threads := #[{ frames := .invoking theMethod args0 :: below }]
def below0 : List Frame := [.native { method := ⟨0, 0⟩, args := #[] }]
def about1 : State := aboutOver below0
def p0 : Program := .bare "" "" ""
def e0 : Env := launch0.env 0 0 0
theorem w_frames : about1.frames = Frame.invoking theMethod args0 :: below0 := rfl
set_option maxRecDepth 65536 in
theorem w_args : argsFit about1.vm theMethod args0 = true := by decide +kernel
set_option maxRecDepth 65536 in
theorem w_heap : heapFits about1 = true := by decide +kernel
set_option maxRecDepth 65536 in
theorem w_runnable : about1.curStatus? = some .runnable := by decide +kernel
set_option maxRecDepth 65536 in
theorem w_alone : about1.alone = true := by decide +kernel
set_option maxRecDepth 65536 in
theorem w_named : about1.methodNamed? x = some theMethod := by decide +kernel
set_option maxRecDepth 65536 in
theorem w_hears : about1.hears theMethod below0 = true := by decide +kernel
set_option maxRecDepth 65536 in
theorem w_ripe : about1.ripe theMethod args0 below0 = true := by decide +kernel
theorem w_running : about1.status = .running := rfl
set_option maxRecDepth 65536 in
theorem w_room : about1.hasRoom e0.platform room_1 = true :=
  launch0.hasRoom_least _ room_1 (by decide +kernel) (by decide +kernel) (by decide +kernel) (by decide +kernel) (by decide +kernel) (by decide +kernel)
theorem allAtoms_all (ts : List Jvm.Cond) (a : Array Jvm.Value) (st : Jvm.State) : (allAtoms ts).before a st = ts.all (fun c => c.before a st) := by
  induction ts with
  | nil => rfl
  | cons c t ih =>
    show (Jvm.Cond.and c (allAtoms t)).before a st = _
    rw [Jvm.Cond.before_and, ih, List.all_cons]
def words1 : List Jvm.Cond := Jvm.Cond.code x code maxLocals ret :: tables_1
/-- a 'code' word, met by the world's own term for the bytes: nothing is compared byte by byte -/
theorem code_word {y : MethodName} {bytes : ByteArray} {mx : Nat} {rt : Option FieldType} {a : Array Value} {s : State} {m : MethodId} {meth : Method} {c : Code} (h1 : s.methodNamed? y = some m) (h2 : s.vm.method? m = some meth) (h3 : meth.code = some c) (h4 : c.code = bytes)
    (h5 : (c.maxLocals == mx && c.exceptionTable.isEmpty && decide (c.maxStack ≤ mostOperands) && decide (meth.sig.returnType = rt) && !meth.locks && decide (parseMethodDescriptor y.desc = some meth.sig)) = true) : (Jvm.Cond.code y bytes mx rt).before a s = true := by
  simp only [Bool.and_eq_true, beq_iff_eq, Bool.not_eq_true', decide_eq_true_eq] at h5
  obtain ⟨⟨⟨⟨⟨g1, g2⟩, g3⟩, g4⟩, g5⟩, g6⟩ := h5
  simp [Cond.before, Cond.holds, Cond.value, h1, h2, h3, h4, g1, g2, g3, g4, g5, g6]
def isCode : Jvm.Cond → Bool
  | .code _ _ _ _ => true
  | _ => false
theorem all_split {L : List Jvm.Cond} {P : Jvm.Cond → Bool} (h1 : L.all (fun c => isCode c || P c) = true) (h2 : ∀ c ∈ L.filter isCode, P c = true) : L.all P = true := by
  refine List.all_eq_true.mpr fun c hc => ?_
  have h := List.all_eq_true.mp h1 c hc
  rcases Bool.eq_false_or_eq_true (isCode c) with hi | hi
  · exact h2 c (List.mem_filter.mpr ⟨hc, hi⟩)
  · simpa [hi] using h
set_option maxRecDepth 65536 in
theorem w_c0 : (Jvm.Cond.code x code maxLocals ret).before args0 about1 = true := code_word (m := ⟨1, 3⟩) (meth := k1m3) (c := k1c3) (by decide +kernel) rfl rfl rfl (by decide +kernel)
set_option maxRecDepth 65536 in
theorem w_c1 : (Jvm.Cond.code ({ cls := "com/example/variform/variform/variant/Utf8ByteOfPinLaw", name := "check", desc := "(III)Z" } : Jvm.MethodName) method_3_code (3 : Nat) (Option.some Jvm.ClassFile.FieldType.boolean)).before args0 about1 = true := code_word (m := ⟨1, 2⟩) (meth := k1m2) (c := k1c2) (by decide +kernel) rfl rfl rfl (by decide +kernel)
set_option maxRecDepth 65536 in
theorem w_c2 : (Jvm.Cond.code ({ cls := "com/example/variform/variform/variant/Utf8", name := "byteOf", desc := "(III)I" } : Jvm.MethodName) prog_28_method_8_code (4 : Nat) (Option.some Jvm.ClassFile.FieldType.int)).before args0 about1 = true := code_word (m := ⟨2, 1⟩) (meth := k2m1) (c := k2c1) (by decide +kernel) rfl rfl rfl (by decide +kernel)
set_option maxRecDepth 65536 in
theorem w_c3 : (Jvm.Cond.code ({ cls := "com/example/variform/variform/variant/Utf8ByteOfPinLaw", name := "ref", desc := "(III)I" } : Jvm.MethodName) method_2_code (7 : Nat) (Option.some Jvm.ClassFile.FieldType.int)).before args0 about1 = true := code_word (m := ⟨1, 1⟩) (meth := k1m1) (c := k1c1) (by decide +kernel) rfl rfl rfl (by decide +kernel)
def codes1 : List Jvm.Cond := [Jvm.Cond.code x code maxLocals ret, Jvm.Cond.code ({ cls := "com/example/variform/variform/variant/Utf8ByteOfPinLaw", name := "check", desc := "(III)Z" } : Jvm.MethodName) method_3_code (3 : Nat) (Option.some Jvm.ClassFile.FieldType.boolean), Jvm.Cond.code ({ cls := "com/example/variform/variform/variant/Utf8", name := "byteOf", desc := "(III)I" } : Jvm.MethodName) prog_28_method_8_code (4 : Nat) (Option.some Jvm.ClassFile.FieldType.int), Jvm.Cond.code ({ cls := "com/example/variform/variform/variant/Utf8ByteOfPinLaw", name := "ref", desc := "(III)I" } : Jvm.MethodName) method_2_code (7 : Nat) (Option.some Jvm.ClassFile.FieldType.int)]
set_option maxRecDepth 65536 in
theorem codes_eq : words1.filter isCode = codes1 := rfl
theorem w_codes : ∀ c ∈ words1.filter isCode, c.before args0 about1 = true := by
  rw [codes_eq]
  intro c hc
  simp only [codes1, List.mem_cons, List.not_mem_nil, or_false] at hc
  rcases hc with rfl | rfl | rfl | rfl
  · exact w_c0
  · exact w_c1
  · exact w_c2
  · exact w_c3
set_option maxRecDepth 65536 in
theorem w_t1 : words1.all (fun c => isCode c || c.before args0 about1) = true := by decide +kernel
theorem w_tables : (allAtoms (Jvm.Cond.code x code maxLocals ret :: tables_1)).before args0 about1 = true := by
  rw [allAtoms_all]
  show words1.all (fun c => c.before args0 about1) = true
  refine all_split ?_ w_codes
  rw [w_t1]
set_option maxRecDepth 65536 in
theorem w_case : (Jvm.Cond.and given_1 narrow_1).before args0 about1 = true := by decide +kernel
theorem w_applies : (headSpec (Jvm.Cond.code x code maxLocals ret :: tables_1) room_1).applies x e0.platform about1 = true :=
  (Spec.applies_iff w_frames).mpr ⟨w_running, w_runnable, w_alone, w_named, w_hears, w_ripe, w_room, w_tables⟩
theorem atStart : AtStart classFile x code maxLocals ret World_1 tables_1 room_1 Calls_1 rest_1 Pre_1 launch0 p0 e0 about1 theMethod args0 below0 :=
  ⟨lists_1, trivial, launch0.admits_env _ _ _, launch0.least_env, fairChoices_fair.cas, fairChoices_fair.clock, w_frames, w_args, w_heap, w_applies, trivial, trivial, w_case⟩
end start1
theorem witness_1 : WitnessClaimed_1 := ⟨start1.p0, start1.e0, start1.about1, start1.theMethod, start1.args0, start1.below0, start1.atStart⟩
end Jvm.Pilot.@@N@@
