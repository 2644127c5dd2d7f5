import JvmDerived
import JvmDerived.Pilot.@@N@@Statement
import JvmDerived.Pilot.@@N@@Code
set_option linter.unusedVariables false
set_option linter.unusedSimpArgs false
namespace Jvm.Pilot.@@N@@
open Jvm Jvm.ClassFile Sem Op Lib Jvm.Free Jvm.Stand Jvm.LawKit Jvm.RoadKit Bundle Jvm.Pilot.@@N@@.Jvm.D
section Layer
variable {p : Program} {l : Launch} {e : Env} {R : Room} {s : State} {m : MethodId} {args : Array Value} {below : List Frame} {meth : Method} {c : Code} {T : State} {locs : List Loc} {cells slots : Nat} {Q : Option Value → Heap → List Loc → Prop} {K N : Nat} {pc n : Nat} {Ls : Array Slot} {rest st : List Value} {Z : State} {a0 : Array Value} {h : Heap}
/-- from st on the invocation ends as Q says -/
def Goes (p : Program) (e : Env) (below : List Frame) (s : State) (Q : Option Value → Heap → List Loc → Prop) (K N : Nat) (st : State) : Prop :=
  ∃ s₂ o, Steps p.tables e below st s₂ ∧ s₂.status = .running ∧ Ended s₂ below o ∧ ∃ v L, o = .returned v ∧ Q v s₂.heap L ∧ FrameEnd s o s₂ L K N
theorem Goes.via {st st' : State} (g : Goes p e below s Q K N st') (h : ∀ t, Steps p.tables e below st' t → Steps p.tables e below st t) : Goes p e below s Q K N st := by
  obtain ⟨s₂, o, h1, r⟩ := g
  exact ⟨s₂, o, h _ h1, r⟩
/-- a body's contract -/
def Does (l : Launch) (Z : State) (y : MethodName) (bytes : ByteArray) (maxL : Nat) (ret : Option FieldType) (ws : List Jvm.Cond) (rm : Room) (as : Array Value) (h : Heap) (Q : Option Value → Heap → List Loc → Prop) : Prop :=
  MetFree l y (head1 (Jvm.Cond.code y bytes maxL ret :: ws) rm) (fun a U => a = as ∧ Z.Warmed39 U.vm ∧ U.heap = h) (fun _ _ _ _ _ => True) (fun _ U o U' => ∃ v L, o = .returned v ∧ Q v U'.heap L ∧ FrameEnd U o U' L rm.cells rm.slots)
theorem Does.of {y : MethodName} {bytes : ByteArray} {maxL : Nat} {ret : Option FieldType} {ws : List Jvm.Cond} {rm : Room} {as : Array Value} (hpl : plainFor y = true)
    (body : ∀ (p : Program) (e : Env) (s : State) (m : MethodId) (below : List Frame) (meth : Method) (c : Code) (T : State), p.tables.exec = Jvm.exec → c.code = bytes → c.maxLocals = maxL → s.vm.findClass y.cls = some m.cls → meth.name = y.name → meth.sig.returnType = ret → meth.locks = false → Z.Warmed39 s.vm → Stand p l e rm s m as below meth c T [] 0 0 → T.heap = h → Goes p e below s Q rm.cells rm.slots (T.setTop (entryFrame m as maxL))) : Does l Z y bytes maxL ret ws rm as h Q := by
  refine MetFree.of_bodySF hpl hisR ?_
  intro p e s m args below meth c s₁ Bd hml0 hP hK
  obtain ⟨rfl, hZ, hh⟩ := hP
  have X0 : Stand p l e rm s m args below meth c s₁ [] 0 0 := Stand.of_body Bd
  exact body p e s m below meth c s₁ Bd.exec Bd.bytes hml0 (findClass_of_methodNamed Bd.named) (name_of_methodNamed Bd.named Bd.method).1 Bd.returns Bd.notSynchronized hZ X0 (by rw [← hh, Bd.state]; rfl)
theorem o_entry {as : Array Value} {maxL : Nat} (q : entryFrame m as maxL = mkF m 0 Ls []) (g : Goes p e below s Q K N (T.setTop (mkF m 0 Ls []))) : Goes p e below s Q K N (T.setTop (entryFrame m as maxL)) := q ▸ g
theorem o_iload (X : Stand p l e R s m args below meth c T locs cells slots) (hx : p.tables.exec = Jvm.exec) {j : Nat} {v : Int32} (hd : decode c.code pc = .ok (.iload j, 2)) (hl : Ls[j]? = some (.val (.int v))) (hn : pc + 2 = n) (g : Goes p e below s Q K N (T.setTop (mkF m n Ls (.int v :: st)))) : Goes p e below s Q K N (T.setTop (mkF m pc Ls st)) := by
  subst hn
  exact g.via fun t k => XS.iload X.here hx rfl hd hl k
theorem o_iloadN (X : Stand p l e R s m args below meth c T locs cells slots) (hx : p.tables.exec = Jvm.exec) {j : Fin 4} {v : Int32} (hd : decode c.code pc = .ok (.iload_n j, 1)) (hl : Ls[j.val]? = some (.val (.int v))) (hn : pc + 1 = n) (g : Goes p e below s Q K N (T.setTop (mkF m n Ls (.int v :: st)))) : Goes p e below s Q K N (T.setTop (mkF m pc Ls st)) := by
  subst hn
  exact g.via fun t k => XS.iloadN X.here hx rfl hd hl k
theorem o_lload (X : Stand p l e R s m args below meth c T locs cells slots) (hx : p.tables.exec = Jvm.exec) {j : Nat} {v : Int64} (hd : decode c.code pc = .ok (.lload j, 2)) (hl : Ls[j]? = some (.val (.long v))) (hn : pc + 2 = n) (g : Goes p e below s Q K N (T.setTop (mkF m n Ls (.long v :: st)))) : Goes p e below s Q K N (T.setTop (mkF m pc Ls st)) := by
  subst hn
  exact g.via fun t k => XS.lload X.here hx rfl hd hl k
theorem o_lloadN (X : Stand p l e R s m args below meth c T locs cells slots) (hx : p.tables.exec = Jvm.exec) {j : Fin 4} {v : Int64} (hd : decode c.code pc = .ok (.lload_n j, 1)) (hl : Ls[j.val]? = some (.val (.long v))) (hn : pc + 1 = n) (g : Goes p e below s Q K N (T.setTop (mkF m n Ls (.long v :: st)))) : Goes p e below s Q K N (T.setTop (mkF m pc Ls st)) := by
  subst hn
  exact g.via fun t k => XS.lloadN X.here hx rfl hd hl k
theorem o_aload (X : Stand p l e R s m args below meth c T locs cells slots) (hx : p.tables.exec = Jvm.exec) {j : Nat} {v : Value} (hd : decode c.code pc = .ok (.aload j, 2)) (hl : Ls[j]? = some (.val v)) (hv : v.isRef = true) (hn : pc + 2 = n) (g : Goes p e below s Q K N (T.setTop (mkF m n Ls (v :: st)))) : Goes p e below s Q K N (T.setTop (mkF m pc Ls st)) := by
  subst hn
  exact g.via fun t k => XS.aload X.here hx rfl hd hl hv k
theorem o_aloadN (X : Stand p l e R s m args below meth c T locs cells slots) (hx : p.tables.exec = Jvm.exec) {j : Fin 4} {v : Value} (hd : decode c.code pc = .ok (.aload_n j, 1)) (hl : Ls[j.val]? = some (.val v)) (hv : v.isRef = true) (hn : pc + 1 = n) (g : Goes p e below s Q K N (T.setTop (mkF m n Ls (v :: st)))) : Goes p e below s Q K N (T.setTop (mkF m pc Ls st)) := by
  subst hn
  exact g.via fun t k => XS.aloadN X.here hx rfl hd hl hv k
theorem o_istore (X : Stand p l e R s m args below meth c T locs cells slots) (hx : p.tables.exec = Jvm.exec) {j : Nat} {v : Int32} {Ls' : Array Slot} (hd : decode c.code pc = .ok (.istore j, 2)) (hl : storeLocals Ls j (.int v) = some Ls') (hn : pc + 2 = n) (g : Goes p e below s Q K N (T.setTop (mkF m n Ls' rest))) : Goes p e below s Q K N (T.setTop (mkF m pc Ls (.int v :: rest))) := by
  subst hn
  exact g.via fun t k => XS.istore X.here hx rfl hd rfl hl k
theorem o_istoreN (X : Stand p l e R s m args below meth c T locs cells slots) (hx : p.tables.exec = Jvm.exec) {j : Fin 4} {v : Int32} {Ls' : Array Slot} (hd : decode c.code pc = .ok (.istore_n j, 1)) (hl : storeLocals Ls j.val (.int v) = some Ls') (hn : pc + 1 = n) (g : Goes p e below s Q K N (T.setTop (mkF m n Ls' rest))) : Goes p e below s Q K N (T.setTop (mkF m pc Ls (.int v :: rest))) := by
  subst hn
  exact g.via fun t k => XS.istoreN X.here hx rfl hd rfl hl k
theorem o_lstore (X : Stand p l e R s m args below meth c T locs cells slots) (hx : p.tables.exec = Jvm.exec) {j : Nat} {v : Int64} {Ls' : Array Slot} (hd : decode c.code pc = .ok (.lstore j, 2)) (hl : storeLocals Ls j (.long v) = some Ls') (hn : pc + 2 = n) (g : Goes p e below s Q K N (T.setTop (mkF m n Ls' rest))) : Goes p e below s Q K N (T.setTop (mkF m pc Ls (.long v :: rest))) := by
  subst hn
  exact g.via fun t k => XS.lstore X.here hx rfl hd rfl hl k
theorem o_lstoreN (X : Stand p l e R s m args below meth c T locs cells slots) (hx : p.tables.exec = Jvm.exec) {j : Fin 4} {v : Int64} {Ls' : Array Slot} (hd : decode c.code pc = .ok (.lstore_n j, 1)) (hl : storeLocals Ls j.val (.long v) = some Ls') (hn : pc + 1 = n) (g : Goes p e below s Q K N (T.setTop (mkF m n Ls' rest))) : Goes p e below s Q K N (T.setTop (mkF m pc Ls (.long v :: rest))) := by
  subst hn
  exact g.via fun t k => XS.lstoreN X.here hx rfl hd rfl hl k
theorem o_astore (X : Stand p l e R s m args below meth c T locs cells slots) (hx : p.tables.exec = Jvm.exec) {j : Nat} {v : Value} {Ls' : Array Slot} (hd : decode c.code pc = .ok (.astore j, 2)) (hv : v.isRef = true) (hl : storeLocals Ls j v = some Ls') (hn : pc + 2 = n) (g : Goes p e below s Q K N (T.setTop (mkF m n Ls' rest))) : Goes p e below s Q K N (T.setTop (mkF m pc Ls (v :: rest))) := by
  subst hn
  exact g.via fun t k => XS.astore X.here hx rfl hd rfl hv hl k
theorem o_astoreN (X : Stand p l e R s m args below meth c T locs cells slots) (hx : p.tables.exec = Jvm.exec) {j : Fin 4} {v : Value} {Ls' : Array Slot} (hd : decode c.code pc = .ok (.astore_n j, 1)) (hv : v.isRef = true) (hl : storeLocals Ls j.val v = some Ls') (hn : pc + 1 = n) (g : Goes p e below s Q K N (T.setTop (mkF m n Ls' rest))) : Goes p e below s Q K N (T.setTop (mkF m pc Ls (v :: rest))) := by
  subst hn
  exact g.via fun t k => XS.astoreN X.here hx rfl hd rfl hv hl k
theorem o_iinc (X : Stand p l e R s m args below meth c T locs cells slots) (hx : p.tables.exec = Jvm.exec) {j : Nat} {cst : Int} {x w : Int32} {Ls' : Array Slot} (hd : decode c.code pc = .ok (.iinc j cst, 3)) (hl : Ls[j]? = some (.val (.int x))) (hw : x + Int32.ofInt cst = w) (hl' : storeLocals Ls j (.int w) = some Ls') (hn : pc + 3 = n) (g : Goes p e below s Q K N (T.setTop (mkF m n Ls' st))) : Goes p e below s Q K N (T.setTop (mkF m pc Ls st)) := by
  subst hn
  exact g.via fun t k => XS.iinc X.here hx rfl hd hl (by rw [hw]; exact hl') k
theorem o_iconst (X : Stand p l e R s m args below meth c T locs cells slots) (hx : p.tables.exec = Jvm.exec) {i : Int} {v : Int32} (hd : decode c.code pc = .ok (.iconst i, 1)) (hv : Int32.ofInt i = v) (hn : pc + 1 = n) (g : Goes p e below s Q K N (T.setTop (mkF m n Ls (.int v :: st)))) : Goes p e below s Q K N (T.setTop (mkF m pc Ls st)) := by
  subst hn hv
  exact g.via fun t k => XS.iconst X.here hx rfl hd k
theorem o_bipush (X : Stand p l e R s m args below meth c T locs cells slots) (hx : p.tables.exec = Jvm.exec) {i : Int} {v : Int32} (hd : decode c.code pc = .ok (.bipush i, 2)) (hv : (Int8.ofInt i).toInt32 = v) (hn : pc + 2 = n) (g : Goes p e below s Q K N (T.setTop (mkF m n Ls (.int v :: st)))) : Goes p e below s Q K N (T.setTop (mkF m pc Ls st)) := by
  subst hn hv
  exact g.via fun t k => XS.bipush X.here hx rfl hd k
theorem o_sipush (X : Stand p l e R s m args below meth c T locs cells slots) (hx : p.tables.exec = Jvm.exec) {i : Int} {v : Int32} (hd : decode c.code pc = .ok (.sipush i, 3)) (hv : (Int16.ofInt i).toInt32 = v) (hn : pc + 3 = n) (g : Goes p e below s Q K N (T.setTop (mkF m n Ls (.int v :: st)))) : Goes p e below s Q K N (T.setTop (mkF m pc Ls st)) := by
  subst hn hv
  exact g.via fun t k => XS.sipush X.here hx rfl hd k
theorem o_lconst (X : Stand p l e R s m args below meth c T locs cells slots) (hx : p.tables.exec = Jvm.exec) {j : Fin 2} {v : Int64} (hd : decode c.code pc = .ok (.lconst j, 1)) (hv : Int64.ofNat j = v) (hn : pc + 1 = n) (g : Goes p e below s Q K N (T.setTop (mkF m n Ls (.long v :: st)))) : Goes p e below s Q K N (T.setTop (mkF m pc Ls st)) := by
  subst hn hv
  exact g.via fun t k => XS.lconst X.here hx rfl hd k
theorem o_aconst_null (X : Stand p l e R s m args below meth c T locs cells slots) (hx : p.tables.exec = Jvm.exec)  (hd : decode c.code pc = .ok (.aconst_null, 1)) (hn : pc + 1 = n) (g : Goes p e below s Q K N (T.setTop (mkF m n Ls (.null :: st)))) : Goes p e below s Q K N (T.setTop (mkF m pc Ls st)) := by
  subst hn
  exact g.via fun t k => XS.aconstNull X.here hx rfl hd k
theorem o_ldc (X : Stand p l e R s m args below meth c T locs cells slots) (hx : p.tables.exec = Jvm.exec)  (hZ : Z.Warmed39 s.vm) {own : String} {index : Nat} {v : Int32} (hown : s.vm.findClass own = some m.cls) (w : (Jvm.Cond.constant own index v).before a0 Z = true) (hd : decode c.code pc = .ok (.ldc index, 2)) (hn : pc + 2 = n) (g : Goes p e below s Q K N (T.setTop (mkF m n Ls (.int v :: st)))) : Goes p e below s Q K N (T.setTop (mkF m pc Ls st)) := by
  subst hn
  exact g.via fun t k => X.ldcInt hx hown (mvT hZ w) (g := mkF m pc Ls st) rfl hd t k
theorem o_ldc_w (X : Stand p l e R s m args below meth c T locs cells slots) (hx : p.tables.exec = Jvm.exec)  (hZ : Z.Warmed39 s.vm) {own : String} {index : Nat} {v : Int32} (hown : s.vm.findClass own = some m.cls) (w : (Jvm.Cond.constant own index v).before a0 Z = true) (hd : decode c.code pc = .ok (.ldc_w index, 3)) (hn : pc + 3 = n) (g : Goes p e below s Q K N (T.setTop (mkF m n Ls (.int v :: st)))) : Goes p e below s Q K N (T.setTop (mkF m pc Ls st)) := by
  subst hn
  exact g.via fun t k => X.ldcWInt hx hown (mvT hZ w) (g := mkF m pc Ls st) rfl hd t k
theorem o_ldc2_w (X : Stand p l e R s m args below meth c T locs cells slots) (hx : p.tables.exec = Jvm.exec)  (hZ : Z.Warmed39 s.vm) {own : String} {index : Nat} {v : Int64} (hown : s.vm.findClass own = some m.cls) (w : (Jvm.Cond.constantLong own index v).before a0 Z = true) (hd : decode c.code pc = .ok (.ldc2_w index, 3)) (hn : pc + 3 = n) (g : Goes p e below s Q K N (T.setTop (mkF m n Ls (.long v :: st)))) : Goes p e below s Q K N (T.setTop (mkF m pc Ls st)) := by
  subst hn
  exact g.via fun t k => X.ldc2Long hx hown (mvT hZ w) (g := mkF m pc Ls st) rfl hd t k
theorem o_iadd (X : Stand p l e R s m args below meth c T locs cells slots) (hx : p.tables.exec = Jvm.exec) {x y v : Int32} (hd : decode c.code pc = .ok (.iadd, 1)) (hv : x + y = v) (hn : pc + 1 = n) (g : Goes p e below s Q K N (T.setTop (mkF m n Ls (.int v :: rest)))) : Goes p e below s Q K N (T.setTop (mkF m pc Ls (.int y :: .int x :: rest))) := by
  subst hn hv
  exact g.via fun t k => XS.iadd X.here hx rfl hd rfl k
theorem o_isub (X : Stand p l e R s m args below meth c T locs cells slots) (hx : p.tables.exec = Jvm.exec) {x y v : Int32} (hd : decode c.code pc = .ok (.isub, 1)) (hv : x - y = v) (hn : pc + 1 = n) (g : Goes p e below s Q K N (T.setTop (mkF m n Ls (.int v :: rest)))) : Goes p e below s Q K N (T.setTop (mkF m pc Ls (.int y :: .int x :: rest))) := by
  subst hn hv
  exact g.via fun t k => XS.isub X.here hx rfl hd rfl k
theorem o_imul (X : Stand p l e R s m args below meth c T locs cells slots) (hx : p.tables.exec = Jvm.exec) {x y v : Int32} (hd : decode c.code pc = .ok (.imul, 1)) (hv : x * y = v) (hn : pc + 1 = n) (g : Goes p e below s Q K N (T.setTop (mkF m n Ls (.int v :: rest)))) : Goes p e below s Q K N (T.setTop (mkF m pc Ls (.int y :: .int x :: rest))) := by
  subst hn hv
  exact g.via fun t k => XS.imul X.here hx rfl hd rfl k
theorem o_iand (X : Stand p l e R s m args below meth c T locs cells slots) (hx : p.tables.exec = Jvm.exec) {x y v : Int32} (hd : decode c.code pc = .ok (.iand, 1)) (hv : x &&& y = v) (hn : pc + 1 = n) (g : Goes p e below s Q K N (T.setTop (mkF m n Ls (.int v :: rest)))) : Goes p e below s Q K N (T.setTop (mkF m pc Ls (.int y :: .int x :: rest))) := by
  subst hn hv
  exact g.via fun t k => XS.iand X.here hx rfl hd rfl k
theorem o_ior (X : Stand p l e R s m args below meth c T locs cells slots) (hx : p.tables.exec = Jvm.exec) {x y v : Int32} (hd : decode c.code pc = .ok (.ior, 1)) (hv : x ||| y = v) (hn : pc + 1 = n) (g : Goes p e below s Q K N (T.setTop (mkF m n Ls (.int v :: rest)))) : Goes p e below s Q K N (T.setTop (mkF m pc Ls (.int y :: .int x :: rest))) := by
  subst hn hv
  exact g.via fun t k => XS.ior X.here hx rfl hd rfl k
theorem o_ixor (X : Stand p l e R s m args below meth c T locs cells slots) (hx : p.tables.exec = Jvm.exec) {x y v : Int32} (hd : decode c.code pc = .ok (.ixor, 1)) (hv : x ^^^ y = v) (hn : pc + 1 = n) (g : Goes p e below s Q K N (T.setTop (mkF m n Ls (.int v :: rest)))) : Goes p e below s Q K N (T.setTop (mkF m pc Ls (.int y :: .int x :: rest))) := by
  subst hn hv
  exact g.via fun t k => XS.ixor X.here hx rfl hd rfl k
theorem o_ladd (X : Stand p l e R s m args below meth c T locs cells slots) (hx : p.tables.exec = Jvm.exec) {x y v : Int64} (hd : decode c.code pc = .ok (.ladd, 1)) (hv : x + y = v) (hn : pc + 1 = n) (g : Goes p e below s Q K N (T.setTop (mkF m n Ls (.long v :: rest)))) : Goes p e below s Q K N (T.setTop (mkF m pc Ls (.long y :: .long x :: rest))) := by
  subst hn hv
  exact g.via fun t k => XS.ladd X.here hx rfl hd rfl k
theorem o_lsub (X : Stand p l e R s m args below meth c T locs cells slots) (hx : p.tables.exec = Jvm.exec) {x y v : Int64} (hd : decode c.code pc = .ok (.lsub, 1)) (hv : x - y = v) (hn : pc + 1 = n) (g : Goes p e below s Q K N (T.setTop (mkF m n Ls (.long v :: rest)))) : Goes p e below s Q K N (T.setTop (mkF m pc Ls (.long y :: .long x :: rest))) := by
  subst hn hv
  exact g.via fun t k => XS.lsub X.here hx rfl hd rfl k
theorem o_lmul (X : Stand p l e R s m args below meth c T locs cells slots) (hx : p.tables.exec = Jvm.exec) {x y v : Int64} (hd : decode c.code pc = .ok (.lmul, 1)) (hv : x * y = v) (hn : pc + 1 = n) (g : Goes p e below s Q K N (T.setTop (mkF m n Ls (.long v :: rest)))) : Goes p e below s Q K N (T.setTop (mkF m pc Ls (.long y :: .long x :: rest))) := by
  subst hn hv
  exact g.via fun t k => XS.lmul X.here hx rfl hd rfl k
theorem o_land (X : Stand p l e R s m args below meth c T locs cells slots) (hx : p.tables.exec = Jvm.exec) {x y v : Int64} (hd : decode c.code pc = .ok (.land, 1)) (hv : x &&& y = v) (hn : pc + 1 = n) (g : Goes p e below s Q K N (T.setTop (mkF m n Ls (.long v :: rest)))) : Goes p e below s Q K N (T.setTop (mkF m pc Ls (.long y :: .long x :: rest))) := by
  subst hn hv
  exact g.via fun t k => XS.land X.here hx rfl hd rfl k
theorem o_lor (X : Stand p l e R s m args below meth c T locs cells slots) (hx : p.tables.exec = Jvm.exec) {x y v : Int64} (hd : decode c.code pc = .ok (.lor, 1)) (hv : x ||| y = v) (hn : pc + 1 = n) (g : Goes p e below s Q K N (T.setTop (mkF m n Ls (.long v :: rest)))) : Goes p e below s Q K N (T.setTop (mkF m pc Ls (.long y :: .long x :: rest))) := by
  subst hn hv
  exact g.via fun t k => XS.lor X.here hx rfl hd rfl k
theorem o_lxor (X : Stand p l e R s m args below meth c T locs cells slots) (hx : p.tables.exec = Jvm.exec) {x y v : Int64} (hd : decode c.code pc = .ok (.lxor, 1)) (hv : x ^^^ y = v) (hn : pc + 1 = n) (g : Goes p e below s Q K N (T.setTop (mkF m n Ls (.long v :: rest)))) : Goes p e below s Q K N (T.setTop (mkF m pc Ls (.long y :: .long x :: rest))) := by
  subst hn hv
  exact g.via fun t k => XS.lxor X.here hx rfl hd rfl k
theorem o_idiv (X : Stand p l e R s m args below meth c T locs cells slots) (hx : p.tables.exec = Jvm.exec) {x y v : Int32} (hd : decode c.code pc = .ok (.idiv, 1)) (hy : y ≠ 0) (hv : x / y = v) (hn : pc + 1 = n) (g : Goes p e below s Q K N (T.setTop (mkF m n Ls (.int v :: rest)))) : Goes p e below s Q K N (T.setTop (mkF m pc Ls (.int y :: .int x :: rest))) := by
  subst hn hv
  exact g.via fun t k => XS.idiv X.here hx rfl hd rfl hy k
theorem o_irem (X : Stand p l e R s m args below meth c T locs cells slots) (hx : p.tables.exec = Jvm.exec) {x y v : Int32} (hd : decode c.code pc = .ok (.irem, 1)) (hy : y ≠ 0) (hv : x % y = v) (hn : pc + 1 = n) (g : Goes p e below s Q K N (T.setTop (mkF m n Ls (.int v :: rest)))) : Goes p e below s Q K N (T.setTop (mkF m pc Ls (.int y :: .int x :: rest))) := by
  subst hn hv
  exact g.via fun t k => iremM X hx (g := mkF m pc Ls _) rfl hd rfl hy k
theorem o_ldiv (X : Stand p l e R s m args below meth c T locs cells slots) (hx : p.tables.exec = Jvm.exec) {x y v : Int64} (hd : decode c.code pc = .ok (.ldiv, 1)) (hy : y ≠ 0) (hv : x / y = v) (hn : pc + 1 = n) (g : Goes p e below s Q K N (T.setTop (mkF m n Ls (.long v :: rest)))) : Goes p e below s Q K N (T.setTop (mkF m pc Ls (.long y :: .long x :: rest))) := by
  subst hn hv
  exact g.via fun t k => XS.ldiv X.here hx rfl hd rfl hy k
theorem o_lrem (X : Stand p l e R s m args below meth c T locs cells slots) (hx : p.tables.exec = Jvm.exec) {x y v : Int64} (hd : decode c.code pc = .ok (.lrem, 1)) (hy : y ≠ 0) (hv : x % y = v) (hn : pc + 1 = n) (g : Goes p e below s Q K N (T.setTop (mkF m n Ls (.long v :: rest)))) : Goes p e below s Q K N (T.setTop (mkF m pc Ls (.long y :: .long x :: rest))) := by
  subst hn hv
  exact g.via fun t k => XS.lrem X.here hx rfl hd rfl hy (by rw [lrem_mod]; exact k)
theorem o_ishl (X : Stand p l e R s m args below meth c T locs cells slots) (hx : p.tables.exec = Jvm.exec) {x y v : Int32} (hd : decode c.code pc = .ok (.ishl, 1)) (hv : x <<< (y &&& 31) = v) (hn : pc + 1 = n) (g : Goes p e below s Q K N (T.setTop (mkF m n Ls (.int v :: rest)))) : Goes p e below s Q K N (T.setTop (mkF m pc Ls (.int y :: .int x :: rest))) := by
  subst hn hv
  exact g.via fun t k => XS.ishl X.here hx rfl hd rfl k
theorem o_ishr (X : Stand p l e R s m args below meth c T locs cells slots) (hx : p.tables.exec = Jvm.exec) {x y v : Int32} (hd : decode c.code pc = .ok (.ishr, 1)) (hv : x >>> (y &&& 31) = v) (hn : pc + 1 = n) (g : Goes p e below s Q K N (T.setTop (mkF m n Ls (.int v :: rest)))) : Goes p e below s Q K N (T.setTop (mkF m pc Ls (.int y :: .int x :: rest))) := by
  subst hn hv
  exact g.via fun t k => XS.ishr X.here hx rfl hd rfl k
theorem o_iushr (X : Stand p l e R s m args below meth c T locs cells slots) (hx : p.tables.exec = Jvm.exec) {x y v : Int32} (hd : decode c.code pc = .ok (.iushr, 1)) (hv : (x.toUInt32 >>> (y &&& 31).toUInt32).toInt32 = v) (hn : pc + 1 = n) (g : Goes p e below s Q K N (T.setTop (mkF m n Ls (.int v :: rest)))) : Goes p e below s Q K N (T.setTop (mkF m pc Ls (.int y :: .int x :: rest))) := by
  subst hn hv
  exact g.via fun t k => XS.iushr X.here hx rfl hd rfl k
theorem o_lshl (X : Stand p l e R s m args below meth c T locs cells slots) (hx : p.tables.exec = Jvm.exec) {x v : Int64} {y : Int32} (hd : decode c.code pc = .ok (.lshl, 1)) (hv : x <<< (y &&& 0x3f).toInt64 = v) (hn : pc + 1 = n) (g : Goes p e below s Q K N (T.setTop (mkF m n Ls (.long v :: rest)))) : Goes p e below s Q K N (T.setTop (mkF m pc Ls (.int y :: .long x :: rest))) := by
  subst hn hv
  exact g.via fun t k => XS.lshl X.here hx rfl hd rfl k
theorem o_lshr (X : Stand p l e R s m args below meth c T locs cells slots) (hx : p.tables.exec = Jvm.exec) {x v : Int64} {y : Int32} (hd : decode c.code pc = .ok (.lshr, 1)) (hv : x >>> (y &&& 0x3f).toInt64 = v) (hn : pc + 1 = n) (g : Goes p e below s Q K N (T.setTop (mkF m n Ls (.long v :: rest)))) : Goes p e below s Q K N (T.setTop (mkF m pc Ls (.int y :: .long x :: rest))) := by
  subst hn hv
  exact g.via fun t k => XS.lshr X.here hx rfl hd rfl k
theorem o_lushr (X : Stand p l e R s m args below meth c T locs cells slots) (hx : p.tables.exec = Jvm.exec) {x v : Int64} {y : Int32} (hd : decode c.code pc = .ok (.lushr, 1)) (hv : (x.toUInt64 >>> (y &&& 0x3f).toInt64.toUInt64).toInt64 = v) (hn : pc + 1 = n) (g : Goes p e below s Q K N (T.setTop (mkF m n Ls (.long v :: rest)))) : Goes p e below s Q K N (T.setTop (mkF m pc Ls (.int y :: .long x :: rest))) := by
  subst hn hv
  exact g.via fun t k => XS.lushr X.here hx rfl hd rfl k
theorem o_i2l (X : Stand p l e R s m args below meth c T locs cells slots) (hx : p.tables.exec = Jvm.exec) {x : Int32} {v : Int64} (hd : decode c.code pc = .ok (.i2l, 1)) (hv : x.toInt64 = v) (hn : pc + 1 = n) (g : Goes p e below s Q K N (T.setTop (mkF m n Ls (.long v :: rest)))) : Goes p e below s Q K N (T.setTop (mkF m pc Ls (.int x :: rest))) := by
  subst hn hv
  exact g.via fun t k => XS.i2l X.here hx rfl hd rfl k
theorem o_l2i (X : Stand p l e R s m args below meth c T locs cells slots) (hx : p.tables.exec = Jvm.exec) {x : Int64} {v : Int32} (hd : decode c.code pc = .ok (.l2i, 1)) (hv : x.toInt32 = v) (hn : pc + 1 = n) (g : Goes p e below s Q K N (T.setTop (mkF m n Ls (.int v :: rest)))) : Goes p e below s Q K N (T.setTop (mkF m pc Ls (.long x :: rest))) := by
  subst hn hv
  exact g.via fun t k => XS.l2i X.here hx rfl hd rfl k
theorem o_i2b (X : Stand p l e R s m args below meth c T locs cells slots) (hx : p.tables.exec = Jvm.exec) {x : Int32} {v : Int32} (hd : decode c.code pc = .ok (.i2b, 1)) (hv : x.toInt8.toInt32 = v) (hn : pc + 1 = n) (g : Goes p e below s Q K N (T.setTop (mkF m n Ls (.int v :: rest)))) : Goes p e below s Q K N (T.setTop (mkF m pc Ls (.int x :: rest))) := by
  subst hn hv
  exact g.via fun t k => XS.i2b X.here hx rfl hd rfl k
theorem o_i2c (X : Stand p l e R s m args below meth c T locs cells slots) (hx : p.tables.exec = Jvm.exec) {x : Int32} {v : Int32} (hd : decode c.code pc = .ok (.i2c, 1)) (hv : x.toUInt32.toUInt16.toUInt32.toInt32 = v) (hn : pc + 1 = n) (g : Goes p e below s Q K N (T.setTop (mkF m n Ls (.int v :: rest)))) : Goes p e below s Q K N (T.setTop (mkF m pc Ls (.int x :: rest))) := by
  subst hn hv
  exact g.via fun t k => XS.i2c X.here hx rfl hd rfl k
theorem o_i2s (X : Stand p l e R s m args below meth c T locs cells slots) (hx : p.tables.exec = Jvm.exec) {x : Int32} {v : Int32} (hd : decode c.code pc = .ok (.i2s, 1)) (hv : x.toInt16.toInt32 = v) (hn : pc + 1 = n) (g : Goes p e below s Q K N (T.setTop (mkF m n Ls (.int v :: rest)))) : Goes p e below s Q K N (T.setTop (mkF m pc Ls (.int x :: rest))) := by
  subst hn hv
  exact g.via fun t k => XS.i2s X.here hx rfl hd rfl k
theorem o_ineg (X : Stand p l e R s m args below meth c T locs cells slots) (hx : p.tables.exec = Jvm.exec) {x : Int32} {v : Int32} (hd : decode c.code pc = .ok (.ineg, 1)) (hv : -x = v) (hn : pc + 1 = n) (g : Goes p e below s Q K N (T.setTop (mkF m n Ls (.int v :: rest)))) : Goes p e below s Q K N (T.setTop (mkF m pc Ls (.int x :: rest))) := by
  subst hn hv
  exact g.via fun t k => XS.ineg X.here hx rfl hd rfl k
theorem o_lneg (X : Stand p l e R s m args below meth c T locs cells slots) (hx : p.tables.exec = Jvm.exec) {x : Int64} {v : Int64} (hd : decode c.code pc = .ok (.lneg, 1)) (hv : -x = v) (hn : pc + 1 = n) (g : Goes p e below s Q K N (T.setTop (mkF m n Ls (.long v :: rest)))) : Goes p e below s Q K N (T.setTop (mkF m pc Ls (.long x :: rest))) := by
  subst hn hv
  exact g.via fun t k => XS.lneg X.here hx rfl hd rfl k
theorem o_lcmp (X : Stand p l e R s m args below meth c T locs cells slots) (hx : p.tables.exec = Jvm.exec) {x y : Int64} (hd : decode c.code pc = .ok (.lcmp, 1)) (hn : pc + 1 = n) (g : Goes p e below s Q K N (T.setTop (mkF m n Ls (.int (XT.cmpL x y) :: rest)))) : Goes p e below s Q K N (T.setTop (mkF m pc Ls (.long y :: .long x :: rest))) := by
  subst hn
  exact g.via fun t k => XT.lcmp X.here hx rfl hd rfl k
theorem o_dup (X : Stand p l e R s m args below meth c T locs cells slots) (hx : p.tables.exec = Jvm.exec) {v : Value} (hd : decode c.code pc = .ok (.dup, 1)) (hv : v.category = 1) (hn : pc + 1 = n) (g : Goes p e below s Q K N (T.setTop (mkF m n Ls (v :: v :: rest)))) : Goes p e below s Q K N (T.setTop (mkF m pc Ls (v :: rest))) := by
  subst hn
  exact g.via fun t k => XS.dup X.here hx rfl hd rfl hv k
theorem o_dup_x1 (X : Stand p l e R s m args below meth c T locs cells slots) (hx : p.tables.exec = Jvm.exec) {v w : Value} (hd : decode c.code pc = .ok (.dup_x1, 1)) (hv : v.category = 1) (hw : w.category = 1) (hn : pc + 1 = n) (g : Goes p e below s Q K N (T.setTop (mkF m n Ls (v :: w :: v :: rest)))) : Goes p e below s Q K N (T.setTop (mkF m pc Ls (v :: w :: rest))) := by
  subst hn
  exact g.via fun t k => XS.dupX1 X.here hx rfl hd rfl hv hw k
theorem o_dup2 (X : Stand p l e R s m args below meth c T locs cells slots) (hx : p.tables.exec = Jvm.exec) {v w : Value} (hd : decode c.code pc = .ok (.dup2, 1)) (hv : v.category = 1) (hw : w.category = 1) (hn : pc + 1 = n) (g : Goes p e below s Q K N (T.setTop (mkF m n Ls (v :: w :: v :: w :: rest)))) : Goes p e below s Q K N (T.setTop (mkF m pc Ls (v :: w :: rest))) := by
  subst hn
  exact g.via fun t k => XT.dup2 X.here hx rfl hd rfl hv hw k
theorem o_pop (X : Stand p l e R s m args below meth c T locs cells slots) (hx : p.tables.exec = Jvm.exec) {v : Value} (hd : decode c.code pc = .ok (.pop, 1)) (hv : v.category = 1) (hn : pc + 1 = n) (g : Goes p e below s Q K N (T.setTop (mkF m n Ls rest))) : Goes p e below s Q K N (T.setTop (mkF m pc Ls (v :: rest))) := by
  subst hn
  exact g.via fun t k => XS.pop X.here hx rfl hd rfl hv k
theorem o_goto (X : Stand p l e R s m args below meth c T locs cells slots) (hx : p.tables.exec = Jvm.exec) {o : Int} (hd : decode c.code pc = .ok (.goto o, 3)) (ho : 0 ≤ (pc : Int) + o) (hn : ((pc : Int) + o).toNat = n) (g : Goes p e below s Q K N (T.setTop (mkF m n Ls st))) : Goes p e below s Q K N (T.setTop (mkF m pc Ls st)) := by
  exact g.via fun t k => XS.goto X.here hx rfl rfl hd ho hn k
theorem o_ifY (X : Stand p l e R s m args below meth c T locs cells slots) (hx : p.tables.exec = Jvm.exec) {cd : ClassFile.Cond} {x : Int32} {o : Int} (hd : decode c.code pc = .ok (.ifCond cd o, 3)) (hc : ifCond.holds cd x = true) (ho : 0 ≤ (pc : Int) + o) (hn : ((pc : Int) + o).toNat = n) (g : Goes p e below s Q K N (T.setTop (mkF m n Ls rest))) : Goes p e below s Q K N (T.setTop (mkF m pc Ls (.int x :: rest))) := by
  exact g.via fun t k => XS.ifYes X.here hx rfl rfl hd rfl hc ho hn k
theorem o_ifN (X : Stand p l e R s m args below meth c T locs cells slots) (hx : p.tables.exec = Jvm.exec) {cd : ClassFile.Cond} {x : Int32} {o : Int} (hd : decode c.code pc = .ok (.ifCond cd o, 3)) (hc : ifCond.holds cd x = false) (hn : pc + 3 = n) (g : Goes p e below s Q K N (T.setTop (mkF m n Ls rest))) : Goes p e below s Q K N (T.setTop (mkF m pc Ls (.int x :: rest))) := by
  subst hn
  exact g.via fun t k => XS.ifNo X.here hx rfl hd rfl hc k
theorem o_icmpY (X : Stand p l e R s m args below meth c T locs cells slots) (hx : p.tables.exec = Jvm.exec) {cd : ClassFile.Cond} {x y : Int32} {o : Int} (hd : decode c.code pc = .ok (.if_icmp cd o, 3)) (hc : if_icmp.holds cd x y = true) (ho : 0 ≤ (pc : Int) + o) (hn : ((pc : Int) + o).toNat = n) (g : Goes p e below s Q K N (T.setTop (mkF m n Ls rest))) : Goes p e below s Q K N (T.setTop (mkF m pc Ls (.int y :: .int x :: rest))) := by
  exact g.via fun t k => XS.icmpYes X.here hx rfl rfl hd rfl hc ho hn k
theorem o_icmpN (X : Stand p l e R s m args below meth c T locs cells slots) (hx : p.tables.exec = Jvm.exec) {cd : ClassFile.Cond} {x y : Int32} {o : Int} (hd : decode c.code pc = .ok (.if_icmp cd o, 3)) (hc : if_icmp.holds cd x y = false) (hn : pc + 3 = n) (g : Goes p e below s Q K N (T.setTop (mkF m n Ls rest))) : Goes p e below s Q K N (T.setTop (mkF m pc Ls (.int y :: .int x :: rest))) := by
  subst hn
  exact g.via fun t k => XS.icmpNo X.here hx rfl hd rfl hc k
theorem o_ifnullY (X : Stand p l e R s m args below meth c T locs cells slots) (hx : p.tables.exec = Jvm.exec) {o : Int} (hd : decode c.code pc = .ok (.ifnull o, 3)) (ho : 0 ≤ (pc : Int) + o) (hn : ((pc : Int) + o).toNat = n) (g : Goes p e below s Q K N (T.setTop (mkF m n Ls rest))) : Goes p e below s Q K N (T.setTop (mkF m pc Ls (.null :: rest))) := by
  exact g.via fun t k => XS.ifnullYes X.here hx rfl rfl hd rfl ho hn k
theorem o_ifnullN (X : Stand p l e R s m args below meth c T locs cells slots) (hx : p.tables.exec = Jvm.exec) {o : Int} {a : Addr} (hd : decode c.code pc = .ok (.ifnull o, 3)) (hn : pc + 3 = n) (g : Goes p e below s Q K N (T.setTop (mkF m n Ls rest))) : Goes p e below s Q K N (T.setTop (mkF m pc Ls (.ref a :: rest))) := by
  subst hn
  exact g.via fun t k => XS.ifnullNo X.here hx rfl hd rfl k
theorem o_ifnonnullY (X : Stand p l e R s m args below meth c T locs cells slots) (hx : p.tables.exec = Jvm.exec) {o : Int} {a : Addr} (hd : decode c.code pc = .ok (.ifnonnull o, 3)) (ho : 0 ≤ (pc : Int) + o) (hn : ((pc : Int) + o).toNat = n) (g : Goes p e below s Q K N (T.setTop (mkF m n Ls rest))) : Goes p e below s Q K N (T.setTop (mkF m pc Ls (.ref a :: rest))) := by
  exact g.via fun t k => XS.ifnonnullYes X.here hx rfl rfl hd rfl ho hn k
theorem o_ifnonnullN (X : Stand p l e R s m args below meth c T locs cells slots) (hx : p.tables.exec = Jvm.exec) {o : Int} (hd : decode c.code pc = .ok (.ifnonnull o, 3)) (hn : pc + 3 = n) (g : Goes p e below s Q K N (T.setTop (mkF m n Ls rest))) : Goes p e below s Q K N (T.setTop (mkF m pc Ls (.null :: rest))) := by
  subst hn
  exact g.via fun t k => XS.ifnonnullNo X.here hx rfl hd rfl k
theorem o_acmp (X : Stand p l e R s m args below meth c T locs cells slots) (hx : p.tables.exec = Jvm.exec) {cd : ACond} {x y : Value} {o : Int} {same : Bool} (hd : decode c.code pc = .ok (.if_acmp cd o, 3)) (h1 : x.isRef = true) (h2 : y.isRef = true) (hq : decide (x = y) = same) (ho : 0 ≤ (pc : Int) + o) (hn : n = if acV cd same = true then ((pc : Int) + o).toNat else pc + 3) (g : Goes p e below s Q K N (T.setTop (mkF m n Ls rest))) : Goes p e below s Q K N (T.setTop (mkF m pc Ls (y :: x :: rest))) := by
  exact g.via fun t k => Jvm.RoadKit.acmp X hx (g := mkF m pc Ls _) rfl h1 h2 rfl hd rfl hq ho hn k
/-! the heap -/
theorem o_getfield (X : Stand p l e R s m args below meth c T locs cells slots) (hx : p.tables.exec = Jvm.exec) (hZ : Z.Warmed39 s.vm) {own R0 O nm d host : String} {index : Nat} (hown : s.vm.findClass own = some m.cls) (w : (Jvm.Cond.fieldLink own index R0 nm d).before a0 Z = true ∨ (Jvm.Cond.fieldLinkNest own index R0 nm d host).before a0 Z = true) (via : Via Z R0 O nm d) (eT : T.heap = h) {a : Addr} {v : Value} (F : Fld Z h a O nm d v)
    (hd : decode c.code pc = .ok (.getfield index, 3)) (hn : pc + 3 = n) (k : ∀ T', Stand p l e R s m args below meth c T' locs cells slots → T'.heap = h → Goes p e below s Q K N (T'.setTop (mkF m n Ls (v :: rest)))) : Goes p e below s Q K N (T.setTop (mkF m pc Ls (.ref a :: rest))) := by
  subst hn
  obtain ⟨T', X', e', st'⟩ := getF X hx hZ hown w via eT F (g := mkF m pc Ls (.ref a :: rest)) rfl rfl hd
  exact (k T' X' e').via st'
theorem o_putfield (X : Stand p l e R s m args below meth c T locs cells slots) (hx : p.tables.exec = Jvm.exec) (hZ : Z.Warmed39 s.vm) {own R0 O nm d host C : String} {index kk : Nat} {ty : FieldType} (hown : s.vm.findClass own = some m.cls) (w : (Jvm.Cond.fieldLink own index R0 nm d).before a0 Z = true ∨ (Jvm.Cond.fieldLinkNest own index R0 nm d host).before a0 Z = true) (via : Via Z R0 O nm d) (eT : T.heap = h) {a : Addr} {v old : Value} (F : Fld Z h a O nm d old) (E : Exa Z h a C)
    (L : (Jvm.Cond.lays C O nm d).before a0 Z = true ∨ ((Jvm.Cond.laysFinal C O nm d).before a0 Z = true ∧ own = O ∧ meth.name = "<init>")) (wi : (Jvm.Cond.instantiable C kk).before a0 Z = true) (hty : parseFieldDescriptor d = some ty) (hnn : narrow ty v = v) (hf : fits ty v = true) (hd : decode c.code pc = .ok (.putfield index, 3)) (hn : pc + 3 = n)
    (k : ∀ T' h', Stand p l e R s m args below meth c T' (locs ++ [⟨a, Jvm.RoadKit.slotOf Z O nm d⟩]) cells slots → T'.heap = h' → Wr h h' a (Jvm.RoadKit.slotOf Z O nm d) v → Fld Z h' a O nm d v → Exa Z h' a C → Goes p e below s Q K N (T'.setTop (mkF m n Ls rest))) : Goes p e below s Q K N (T.setTop (mkF m pc Ls (v :: .ref a :: rest))) := by
  subst hn
  obtain ⟨T', h', X', e', W, st'⟩ := putF X hx hZ hown w via eT F E L wi hty hnn hf (g := mkF m pc Ls (v :: .ref a :: rest)) rfl rfl hd
  exact (k T' h' X' e' W (F.same W) (E.wr W)).via st'
theorem o_getstatic (X : Stand p l e R s m args below meth c T locs cells slots) (hx : p.tables.exec = Jvm.exec) (hZ : Z.Warmed39 s.vm) {own R0 O nm d host : String} {index : Nat} (hown : s.vm.findClass own = some m.cls) (w : (Jvm.Cond.fieldLink own index R0 nm d).before a0 Z = true ∨ (Jvm.Cond.fieldLinkNest own index R0 nm d host).before a0 Z = true) (via : Via Z R0 O nm d) (eT : T.heap = h) {v : Value} (F : Sta Z h O nm d v)
    (hd : decode c.code pc = .ok (.getstatic index, 3)) (hn : pc + 3 = n) (k : ∀ T', Stand p l e R s m args below meth c T' locs cells slots → T'.heap = h → Goes p e below s Q K N (T'.setTop (mkF m n Ls (v :: st)))) : Goes p e below s Q K N (T.setTop (mkF m pc Ls st)) := by
  subst hn
  obtain ⟨T', X', e', st'⟩ := getS2 X hx hZ hown w via eT F (g := mkF m pc Ls st) rfl hd
  exact (k T' X' e').via st'
theorem o_new (X : Stand p l e R s m args below meth c T locs cells slots) (hx : p.tables.exec = Jvm.exec) (hZ : Z.Warmed39 s.vm) {own C : String} {index kk : Nat} (hown : s.vm.findClass own = some m.cls) (w : (Jvm.Cond.classLink own index C).before a0 Z = true) (wi : (Jvm.Cond.instantiable C kk).before a0 Z = true) (wz : (Jvm.Cond.initialized C).before a0 Z = true) (eT : T.heap = h)
    (hd : decode c.code pc = .ok (.new index, 3)) (hc : cells + 1 ≤ R.cells) (hs : slots + kk ≤ R.slots) (hn : pc + 3 = n)
    (k : ∀ T' h' a, Stand p l e R s m args below meth c T' locs (cells + 1) (slots + kk) → T'.heap = h' → a = h.size → Ext h h' → Exa Z h' a C → (∀ {O nm d : String} {ty : FieldType}, Laid Z a0 C O nm d → parseFieldDescriptor d = some ty → Fld Z h' a O nm d (defaultValue ty)) → Goes p e below s Q K N (T'.setTop (mkF m n Ls (.ref a :: st)))) : Goes p e below s Q K N (T.setTop (mkF m pc Ls st)) := by
  subst hn
  obtain ⟨T', h', X', e', E, A, D, -, st'⟩ := newO X hx hZ hown w wi wz eT (g := mkF m pc Ls st) rfl hd hc hs
  exact (k T' h' _ X' e' rfl E A D).via st'
theorem o_newarray (X : Stand p l e R s m args below meth c T locs cells slots) (hx : p.tables.exec = Jvm.exec) (hZ : Z.Warmed39 s.vm) {aty : ArrayType} (w : (Jvm.Cond.arrayClass (newarray.typeOf aty)).before a0 Z = true) (eT : T.heap = h) {z : Int32} (hd : decode c.code pc = .ok (.newarray aty, 2)) (hz : ¬ z < 0) (cap : Nat) (hcap : z.toNatClampNeg ≤ cap) (hb : cap * 8 ≤ 536870912) (hc : cells + 1 ≤ R.cells) (hs : slots + cap ≤ R.slots) (hn : pc + 2 = n)
    (k : ∀ T' h' a cA, Stand p l e R s m args below meth c T' locs (cells + 1) (slots + cap) → T'.heap = h' → a = h.size → Ext h h' → Arv Z h' a cA (newarray.typeOf aty) z [] (defaultValue (newarray.typeOf aty)) → Goes p e below s Q K N (T'.setTop (mkF m n Ls (.ref a :: rest)))) : Goes p e below s Q K N (T.setTop (mkF m pc Ls (.int z :: rest))) := by
  subst hn
  obtain ⟨T', h', cA, X', e', E, A, st'⟩ := newP X hx hZ w eT (g := mkF m pc Ls (.int z :: rest)) rfl hd rfl hz hcap hb hc hs
  exact (k T' h' _ cA X' e' rfl E (Arv.new A hz)).via st'
theorem o_arraylength (X : Stand p l e R s m args below meth c T locs cells slots) (hx : p.tables.exec = Jvm.exec) (hZ : Z.Warmed39 s.vm) (eT : T.heap = h) {a : Addr} {k : ClassId} {ty : FieldType} {z : Int32} {vs : List Value} {dv : Value} (V : Arv Z h a k ty z vs dv) (hd : decode c.code pc = .ok (.arraylength, 1)) (hn : pc + 1 = n) (g : Goes p e below s Q K N (T.setTop (mkF m n Ls (.int z :: rest)))) : Goes p e below s Q K N (T.setTop (mkF m pc Ls (.ref a :: rest))) := by
  subst hn
  obtain ⟨cl, A, -, S, M, -, -⟩ := V
  refine g.via fun t k => X.arraylength hx (by rw [eT]; exact A.1) (State.isArrayOf_alike hZ.alike A.2.1) (g := mkF m pc Ls (.ref a :: rest)) rfl rfl hd t ?_
  rw [len_of S M]; exact k
theorem o_iaload (X : Stand p l e R s m args below meth c T locs cells slots) (hx : p.tables.exec = Jvm.exec) (hZ : Z.Warmed39 s.vm) (eT : T.heap = h) {a : Addr} {k : ClassId} {z j : Int32} {vs : List Value} {dv v : Value} (V : Arv Z h a k .int z vs dv) (i : Nat) (hi : j.toNatClampNeg = i) (hj : ¬ j < 0 ∧ j < z) (hv : vs.getD i dv = v) (hd : decode c.code pc = .ok (.iaload, 1)) (hn : pc + 1 = n) (g : Goes p e below s Q K N (T.setTop (mkF m n Ls (v :: rest)))) : Goes p e below s Q K N (T.setTop (mkF m pc Ls (.int j :: .ref a :: rest))) := by
  subst hn hi
  obtain ⟨cl, A, -, S, M, H, -⟩ := V
  exact g.via fun t k => X.iaload hx (by rw [eT]; exact A.1) (State.isArrayOf_alike hZ.alike A.2.1) A.2.2 (inb_of S hj) (Has.at H (inb_of S hj) hv) (g := mkF m pc Ls (.int j :: .ref a :: rest)) rfl rfl hd t k
theorem o_laload (X : Stand p l e R s m args below meth c T locs cells slots) (hx : p.tables.exec = Jvm.exec) (hZ : Z.Warmed39 s.vm) (eT : T.heap = h) {a : Addr} {k : ClassId} {z j : Int32} {vs : List Value} {dv v : Value} (V : Arv Z h a k .long z vs dv) (i : Nat) (hi : j.toNatClampNeg = i) (hj : ¬ j < 0 ∧ j < z) (hv : vs.getD i dv = v) (hd : decode c.code pc = .ok (.laload, 1)) (hn : pc + 1 = n) (g : Goes p e below s Q K N (T.setTop (mkF m n Ls (v :: rest)))) : Goes p e below s Q K N (T.setTop (mkF m pc Ls (.int j :: .ref a :: rest))) := by
  subst hn hi
  obtain ⟨cl, A, -, S, M, H, -⟩ := V
  exact g.via fun t k => X.laload hx (by rw [eT]; exact A.1) (State.isArrayOf_alike hZ.alike A.2.1) A.2.2 (inb_of S hj) (Has.at H (inb_of S hj) hv) (g := mkF m pc Ls (.int j :: .ref a :: rest)) rfl rfl hd t k
theorem o_baload (X : Stand p l e R s m args below meth c T locs cells slots) (hx : p.tables.exec = Jvm.exec) (hZ : Z.Warmed39 s.vm) (eT : T.heap = h) {a : Addr} {k : ClassId} {z j : Int32} {vs : List Value} {dv v : Value} (V : Arv Z h a k .byte z vs dv) (i : Nat) (hi : j.toNatClampNeg = i) (hj : ¬ j < 0 ∧ j < z) (hv : vs.getD i dv = v) (hd : decode c.code pc = .ok (.baload, 1)) (hn : pc + 1 = n) (g : Goes p e below s Q K N (T.setTop (mkF m n Ls (v :: rest)))) : Goes p e below s Q K N (T.setTop (mkF m pc Ls (.int j :: .ref a :: rest))) := by
  subst hn hi
  obtain ⟨cl, A, -, S, M, H, -⟩ := V
  exact g.via fun t k => X.baloadBytes hx (by rw [eT]; exact A.1) (State.isArrayOf_alike hZ.alike A.2.1) A.2.2 (inb_of S hj) (Has.at H (inb_of S hj) hv) (g := mkF m pc Ls (.int j :: .ref a :: rest)) rfl rfl hd t k
theorem o_baloadZ (X : Stand p l e R s m args below meth c T locs cells slots) (hx : p.tables.exec = Jvm.exec) (hZ : Z.Warmed39 s.vm) (eT : T.heap = h) {a : Addr} {k : ClassId} {z j : Int32} {vs : List Value} {dv v : Value} (V : Arv Z h a k .boolean z vs dv) (i : Nat) (hi : j.toNatClampNeg = i) (hj : ¬ j < 0 ∧ j < z) (hv : vs.getD i dv = v) (hd : decode c.code pc = .ok (.baload, 1)) (hn : pc + 1 = n) (g : Goes p e below s Q K N (T.setTop (mkF m n Ls (v :: rest)))) : Goes p e below s Q K N (T.setTop (mkF m pc Ls (.int j :: .ref a :: rest))) := by
  subst hn hi
  obtain ⟨cl, A, -, S, M, H, -⟩ := V
  exact g.via fun t k => X.baloadBooleans hx (by rw [eT]; exact A.1) (State.isArrayOf_alike hZ.alike A.2.1) A.2.2 (inb_of S hj) (Has.at H (inb_of S hj) hv) (g := mkF m pc Ls (.int j :: .ref a :: rest)) rfl rfl hd t k
theorem o_aaload (X : Stand p l e R s m args below meth c T locs cells slots) (hx : p.tables.exec = Jvm.exec) (hZ : Z.Warmed39 s.vm) (eT : T.heap = h) {a : Addr} {k : ClassId} {ty : FieldType} {z j : Int32} {vs : List Value} {dv v : Value} (V : Arv Z h a k ty z vs dv) (hty : ty.isReference = true) (i : Nat) (hi : j.toNatClampNeg = i) (hj : ¬ j < 0 ∧ j < z) (hv : vs.getD i dv = v) (hd : decode c.code pc = .ok (.aaload, 1)) (hn : pc + 1 = n) (g : Goes p e below s Q K N (T.setTop (mkF m n Ls (v :: rest)))) : Goes p e below s Q K N (T.setTop (mkF m pc Ls (.int j :: .ref a :: rest))) := by
  subst hn hi
  obtain ⟨cl, A, -, S, M, H, -⟩ := V
  exact g.via fun t k => X.aaload hx (by rw [eT]; exact A.1) (State.isArrayOf_alike hZ.alike A.2.1) hty A.2.2 (inb_of S hj) (Has.at H (inb_of S hj) hv) (g := mkF m pc Ls (.int j :: .ref a :: rest)) rfl rfl hd t k
theorem o_iastore (X : Stand p l e R s m args below meth c T locs cells slots) (hx : p.tables.exec = Jvm.exec) (hZ : Z.Warmed39 s.vm) (eT : T.heap = h) {a : Addr} {k : ClassId} {z j : Int32} {x : Int32} {vs vs' : List Value} {dv w : Value} (V : Arv Z h a k .int z vs dv) (i : Nat) (hi : j.toNatClampNeg = i) (hj : ¬ j < 0 ∧ j < z) (hlen : i < vs.length) (hw : (.int x) = w) (hvs : vs.set i w = vs') (hd : decode c.code pc = .ok (.iastore, 1)) (hn : pc + 1 = n)
    (g : ∀ T' h', Stand p l e R s m args below meth c T' (locs ++ [⟨a, j.toNatClampNeg⟩]) cells slots → T'.heap = h' → Wr h h' a j.toNatClampNeg w → Arv Z h' a k .int z vs' dv → Goes p e below s Q K N (T'.setTop (mkF m n Ls rest))) : Goes p e below s Q K N (T.setTop (mkF m pc Ls (.int x :: .int j :: .ref a :: rest))) := by
  subst hn hvs hw
  obtain ⟨cl, A, q1, S, M, H, G⟩ := V
  obtain ⟨T', h', X', e', W, st'⟩ := stI X hx hZ eT A (j := j) (inb_of S hj) (g := mkF m pc Ls (.int x :: .int j :: .ref a :: rest)) rfl rfl hd
  exact (g T' h' X' e' W (Arv.set A q1 S M H G rfl W i hi hlen)).via st'
theorem o_lastore (X : Stand p l e R s m args below meth c T locs cells slots) (hx : p.tables.exec = Jvm.exec) (hZ : Z.Warmed39 s.vm) (eT : T.heap = h) {a : Addr} {k : ClassId} {z j : Int32} {x : Int64} {vs vs' : List Value} {dv w : Value} (V : Arv Z h a k .long z vs dv) (i : Nat) (hi : j.toNatClampNeg = i) (hj : ¬ j < 0 ∧ j < z) (hlen : i < vs.length) (hw : (.long x) = w) (hvs : vs.set i w = vs') (hd : decode c.code pc = .ok (.lastore, 1)) (hn : pc + 1 = n)
    (g : ∀ T' h', Stand p l e R s m args below meth c T' (locs ++ [⟨a, j.toNatClampNeg⟩]) cells slots → T'.heap = h' → Wr h h' a j.toNatClampNeg w → Arv Z h' a k .long z vs' dv → Goes p e below s Q K N (T'.setTop (mkF m n Ls rest))) : Goes p e below s Q K N (T.setTop (mkF m pc Ls (.long x :: .int j :: .ref a :: rest))) := by
  subst hn hvs hw
  obtain ⟨cl, A, q1, S, M, H, G⟩ := V
  obtain ⟨T', h', X', e', W, st'⟩ := stJ X hx hZ eT A (j := j) (inb_of S hj) (g := mkF m pc Ls (.long x :: .int j :: .ref a :: rest)) rfl rfl hd
  exact (g T' h' X' e' W (Arv.set A q1 S M H G rfl W i hi hlen)).via st'
theorem o_bastore (X : Stand p l e R s m args below meth c T locs cells slots) (hx : p.tables.exec = Jvm.exec) (hZ : Z.Warmed39 s.vm) (eT : T.heap = h) {a : Addr} {k : ClassId} {z j : Int32} {x : Int32} {vs vs' : List Value} {dv w : Value} (V : Arv Z h a k .byte z vs dv) (i : Nat) (hi : j.toNatClampNeg = i) (hj : ¬ j < 0 ∧ j < z) (hlen : i < vs.length) (hw : (.int (nar .byte x)) = w) (hvs : vs.set i w = vs') (hd : decode c.code pc = .ok (.bastore, 1)) (hn : pc + 1 = n)
    (g : ∀ T' h', Stand p l e R s m args below meth c T' (locs ++ [⟨a, j.toNatClampNeg⟩]) cells slots → T'.heap = h' → Wr h h' a j.toNatClampNeg w → Arv Z h' a k .byte z vs' dv → Goes p e below s Q K N (T'.setTop (mkF m n Ls rest))) : Goes p e below s Q K N (T.setTop (mkF m pc Ls (.int x :: .int j :: .ref a :: rest))) := by
  subst hn hvs hw
  obtain ⟨cl, A, q1, S, M, H, G⟩ := V
  obtain ⟨T', h', X', e', W, st'⟩ := stB X hx hZ eT A (j := j) (inb_of S hj) (g := mkF m pc Ls (.int x :: .int j :: .ref a :: rest)) rfl rfl hd
  exact (g T' h' X' e' W (Arv.set A q1 S M H G (fits_nar_byte x) W i hi hlen)).via st'
theorem o_bastoreZ (X : Stand p l e R s m args below meth c T locs cells slots) (hx : p.tables.exec = Jvm.exec) (hZ : Z.Warmed39 s.vm) (eT : T.heap = h) {a : Addr} {k : ClassId} {z j : Int32} {x : Int32} {vs vs' : List Value} {dv w : Value} (V : Arv Z h a k .boolean z vs dv) (i : Nat) (hi : j.toNatClampNeg = i) (hj : ¬ j < 0 ∧ j < z) (hlen : i < vs.length) (hw : (.int (nar .boolean x)) = w) (hvs : vs.set i w = vs') (hd : decode c.code pc = .ok (.bastore, 1)) (hn : pc + 1 = n)
    (g : ∀ T' h', Stand p l e R s m args below meth c T' (locs ++ [⟨a, j.toNatClampNeg⟩]) cells slots → T'.heap = h' → Wr h h' a j.toNatClampNeg w → Arv Z h' a k .boolean z vs' dv → Goes p e below s Q K N (T'.setTop (mkF m n Ls rest))) : Goes p e below s Q K N (T.setTop (mkF m pc Ls (.int x :: .int j :: .ref a :: rest))) := by
  subst hn hvs hw
  obtain ⟨cl, A, q1, S, M, H, G⟩ := V
  obtain ⟨T', h', X', e', W, st'⟩ := stZ X hx hZ eT A (j := j) (inb_of S hj) (g := mkF m pc Ls (.int x :: .int j :: .ref a :: rest)) rfl rfl hd
  exact (g T' h' X' e' W (Arv.set A q1 S M H G (fits_nar_bool x) W i hi hlen)).via st'

/-! calls -/
theorem o_initO (X : Stand p l e R s m args below meth c T locs cells slots) (hx : p.tables.exec = Jvm.exec) (hZ : Z.Warmed39 s.vm) {own : String} {idx : Nat} (hown : s.vm.findClass own = some m.cls) (w1 : (Jvm.Cond.methodLink own idx Lib.objectInit).before a0 Z = true) (w2 : (Jvm.Cond.instanceMethod Lib.objectInit).before a0 Z = true) (w3 : (Jvm.Cond.code Lib.objectInit ⟨#[0xb1]⟩ 1 none).before a0 Z = true) (eT : T.heap = h) (hsize : Ls.size = c.maxLocals) {a : Addr} (hd : decode c.code pc = .ok (.invokespecial idx, 3)) (hf : 1 ≤ R.frames) (W : Nat) (hW : (rest.map fun v => v.category).sum ≤ W) (hl : W + 12 ≤ R.locals) (hn : pc + 3 = n)
    (k : ∀ T', Stand p l e R s m args below meth c T' locs cells slots → T'.heap = h → Goes p e below s Q K N (T'.setTop (mkF m n Ls rest))) : Goes p e below s Q K N (T.setTop (mkF m pc Ls (.ref a :: rest))) := by
  subst hn
  obtain ⟨T', X', e', st'⟩ := initO X hx hZ hown w1 w2 w3 eT (g := mkF m pc Ls (.ref a :: rest)) rfl hsize rfl hd hf (W := W) (by show 2 * 0 + _ ≤ _; omega) hl
  exact (k T' X' e').via st'
theorem o_callS (X : Stand p l e R s m args below meth c T locs cells slots) (hx : p.tables.exec = Jvm.exec) (hZ : Z.Warmed39 s.vm) {own : String} {index : Nat} {y : MethodName} {bytes : ByteArray} {maxL : Nat} {ret : Option FieldType} {rm : Room} (hown : s.vm.findClass own = some m.cls) (w1 : (Jvm.Cond.methodLink own index y).before a0 Z = true) (w2 : (Jvm.Cond.static y).before a0 Z = true) (w3 : (Jvm.Cond.initialized y.cls).before a0 Z = true) (w4 : (Jvm.Cond.code y bytes maxL ret).before a0 Z = true) (hy : y.cls ≠ "java/lang/invoke/MethodHandle" ∧ y.cls ≠ "java/lang/invoke/VarHandle") (eT : T.heap = h)
    {argsL rest : List Value} {Q' : Option Value → Heap → List Loc → Prop} (hM : Does l Z y bytes maxL ret [] rm argsL.toArray h Q') (W : Nat) (hf : rm.frames + 1 ≤ R.frames) (hl : W + (maxL + 11) + rm.locals ≤ R.locals) (hc : cells + rm.cells ≤ R.cells) (hs : slots + rm.slots ≤ R.slots) (hsize : Ls.size = c.maxLocals) (hlen : ∀ sig, parseMethodDescriptor y.desc = some sig → argsL.length = sig.parameters.length) (hst : st = argsL.reverse ++ rest) (hW : (rest.map fun v => v.category).sum ≤ W) (hd : decode c.code pc = .ok (.invokestatic index, 3)) (hn : pc + 3 = n)
    (k : ∀ v T' L', Stand p l e R s m args below meth c T' (locs ++ L') (cells + rm.cells) (slots + rm.slots) → Q' v T'.heap L' → Goes p e below s Q K N (T'.setTop (mkF m n Ls (v.toList ++ rest)))) : Goes p e below s Q K N (T.setTop (mkF m pc Ls st)) := by
  subst hn
  obtain ⟨v, _, ⟨T', L, kk, nn⟩, -, X', ⟨Lc, hQ, l', y', z'⟩, st'⟩ := Jvm.LawKit.callS X hx (y := y) hown (mvT hZ w1) (mvT hZ w2) (mvT hZ w3) (mvT hZ w4) hy (backOf (W := W) hM hZ w4 w3 hf hl) (g := mkF m pc Ls st) rfl hsize (argsL := argsL) (rest := rest) hlen hst (by show 2 * 0 + _ ≤ _; omega) hd (fun _ _ => ⟨rfl, eT, hc, hs⟩)
  dsimp only [Pt.U, Pt.locs, Pt.cells, Pt.slots] at X' l' y' z' st' hQ
  subst l' y' z'
  exact (k v T' Lc X' hQ).via st'
theorem o_callN (X : Stand p l e R s m args below meth c T locs cells slots) (hx : p.tables.exec = Jvm.exec) (hZ : Z.Warmed39 s.vm) {own : String} {index : Nat} {y : MethodName} {bytes : ByteArray} {maxL : Nat} {rm : Room} (hy1 : y.name = "<init>") (hown : s.vm.findClass own = some m.cls) (w1 : (Jvm.Cond.methodLink own index y).before a0 Z = true) (w2 : (Jvm.Cond.instanceMethod y).before a0 Z = true) (w3 : (Jvm.Cond.initialized y.cls).before a0 Z = true) (w4 : (Jvm.Cond.code y bytes maxL none).before a0 Z = true) (hy : y.cls ≠ "java/lang/invoke/MethodHandle" ∧ y.cls ≠ "java/lang/invoke/VarHandle") (eT : T.heap = h)
    {a : Addr} {argsL rest : List Value} {Q' : Option Value → Heap → List Loc → Prop} (hM : Does l Z y bytes maxL none [] rm (.ref a :: argsL).toArray h Q') (W : Nat) (hf : rm.frames + 1 ≤ R.frames) (hl : W + (maxL + 11) + rm.locals ≤ R.locals) (hc : cells + rm.cells ≤ R.cells) (hs : slots + rm.slots ≤ R.slots) (hsize : Ls.size = c.maxLocals) (hlen : ∀ sig, parseMethodDescriptor y.desc = some sig → argsL.length = sig.parameters.length) (hst : st = argsL.reverse ++ .ref a :: rest) (hW : (rest.map fun v => v.category).sum ≤ W) (hd : decode c.code pc = .ok (.invokespecial index, 3)) (hn : pc + 3 = n)
    (k : ∀ v T' L', Stand p l e R s m args below meth c T' (locs ++ L') (cells + rm.cells) (slots + rm.slots) → Q' v T'.heap L' → Goes p e below s Q K N (T'.setTop (mkF m n Ls (v.toList ++ rest)))) : Goes p e below s Q K N (T.setTop (mkF m pc Ls st)) := by
  subst hn
  obtain ⟨v, _, ⟨T', L, kk, nn⟩, -, X', ⟨Lc, hQ, l', y', z'⟩, st'⟩ := X.specialBack hx (y := y) hy1 hown (mvT hZ w1) (mvT hZ w2) (mvT hZ w4) hy (backOf (W := W) hM hZ w4 w3 hf hl) (g := mkF m pc Ls st) rfl hsize (Steps.refl _) (a := a) (argsL := argsL) (rest := rest) hlen hst (by show 2 * 0 + _ ≤ _; omega) hd (fun _ _ => ⟨rfl, eT, hc, hs⟩)
  dsimp only [Pt.U, Pt.locs, Pt.cells, Pt.slots] at X' l' y' z' st' hQ
  subst l' y' z'
  exact (k v T' Lc X' hQ).via fun t q => st'.trans q
theorem o_callV (X : Stand p l e R s m args below meth c T locs cells slots) (hx : p.tables.exec = Jvm.exec) (hZ : Z.Warmed39 s.vm) {own C : String} {index : Nat} {y : MethodName} {bytes : ByteArray} {maxL : Nat} {ret : Option FieldType} {rm : Room} (hown : s.vm.findClass own = some m.cls) (w1 : (Jvm.Cond.methodLink own index y).before a0 Z = true) (w2 : (Jvm.Cond.declares y).before a0 Z = true) (w5 : (Jvm.Cond.selects C y y).before a0 Z = true) (w6 : (Jvm.Cond.instanceMethod y).before a0 Z = true) (w3 : (Jvm.Cond.initialized y.cls).before a0 Z = true) (w4 : (Jvm.Cond.code y bytes maxL ret).before a0 Z = true) (hy : y.cls ≠ "java/lang/invoke/MethodHandle" ∧ y.cls ≠ "java/lang/invoke/VarHandle") (eT : T.heap = h)
    {a : Addr} (E : Exa Z h a C) {argsL rest : List Value} {Q' : Option Value → Heap → List Loc → Prop} (hM : Does l Z y bytes maxL ret [] rm (.ref a :: argsL).toArray h Q') (W : Nat) (hf : rm.frames + 1 ≤ R.frames) (hl : W + (maxL + 11) + rm.locals ≤ R.locals) (hc : cells + rm.cells ≤ R.cells) (hs : slots + rm.slots ≤ R.slots) (hsize : Ls.size = c.maxLocals) (hlen : ∀ sig, parseMethodDescriptor y.desc = some sig → argsL.length = sig.parameters.length) (hst : st = argsL.reverse ++ .ref a :: rest) (hW : (rest.map fun v => v.category).sum ≤ W) (hd : decode c.code pc = .ok (.invokevirtual index, 3)) (hn : pc + 3 = n)
    (k : ∀ v T' L', Stand p l e R s m args below meth c T' (locs ++ L') (cells + rm.cells) (slots + rm.slots) → Q' v T'.heap L' → Goes p e below s Q K N (T'.setTop (mkF m n Ls (v.toList ++ rest)))) : Goes p e below s Q K N (T.setTop (mkF m pc Ls st)) := by
  subst hn
  obtain ⟨cq, kq, qa, qb, qc⟩ := isOf hZ eT E
  obtain ⟨v, _, ⟨T', L, kk, nn⟩, -, X', ⟨Lc, hQ, l', y', z'⟩, st'⟩ := X.virtualBack hx (y := y) (z := y) hown (mvT hZ w1) (mvT hZ w2) (notFace_of_selects (args := #[]) (mvT hZ w5)) (mvT hZ w5) (mvT hZ w6) hy (backOf (W := W) hM hZ w4 w3 hf hl) qa qc (g := mkF m pc Ls st) rfl hsize (Steps.refl _) (argsL := argsL) (rest := rest) hlen hst (by show 2 * 0 + _ ≤ _; omega) hd (fun _ _ => ⟨rfl, eT, hc, hs⟩)
  dsimp only [Pt.U, Pt.locs, Pt.cells, Pt.slots] at X' l' y' z' st' hQ
  subst l' y' z'
  exact (k v T' Lc X' hQ).via fun t q => st'.trans q
/-- a private method is the one that is selected -/
theorem o_selpriv {y : MethodName} {kk : Nat} (hy : y.cls ≠ "java/lang/invoke/MethodHandle" ∧ y.cls ≠ "java/lang/invoke/VarHandle") (hins : (Jvm.Cond.instantiable y.cls kk).before args s = true) (hpriv : (Jvm.Cond.privateMethod y).before args s = true) (hinst : (Jvm.Cond.instanceMethod y).before args s = true) : (Jvm.Cond.selects y.cls y y).before args s = true := by
  obtain ⟨c, k, hc, hk, -, hniab, -, -⟩ := Cond.instantiable_spec hins
  have hni : k.isInterface = false := (Bool.or_eq_false_iff.mp hniab).1
  obtain ⟨mk, methM, hnamed, hmethM, -, -⟩ := Cond.instanceMethod_spec hinst
  have hfound : s.methodFound? y.cls y.name y.desc = some mk := State.methodFound?_of_named hnamed hy
  have hcls : mk.cls = c := Option.some.inj ((findClass_of_methodNamed hnamed).symm.trans hc)
  have hsel : selectMethod {} s.vm c mk = .method mk := selectMethod_private hmethM (Cond.privateMethod_at hpriv mk methM hnamed hmethM)
  simp only [Cond.before, Cond.holds, Cond.value, hc, hfound, hnamed, hsel, hcls, hk]
  simp; exact hni
theorem o_callP (X : Stand p l e R s m args below meth c T locs cells slots) (hx : p.tables.exec = Jvm.exec) (hZ : Z.Warmed39 s.vm) {own C : String} {index kk : Nat} {y : MethodName} {bytes : ByteArray} {maxL : Nat} {ret : Option FieldType} {rm : Room} (hown : s.vm.findClass own = some m.cls) (w1 : (Jvm.Cond.methodLink own index y).before a0 Z = true) (w6 : (Jvm.Cond.instanceMethod y).before a0 Z = true) (w5 : (Jvm.Cond.privateMethod y).before a0 Z = true) (wi : (Jvm.Cond.instantiable y.cls kk).before a0 Z = true) (w3 : (Jvm.Cond.initialized y.cls).before a0 Z = true) (w4 : (Jvm.Cond.code y bytes maxL ret).before a0 Z = true) (hy : y.cls ≠ "java/lang/invoke/MethodHandle" ∧ y.cls ≠ "java/lang/invoke/VarHandle") (eT : T.heap = h)
    {a : Addr} (E : Exa Z h a C) {argsL rest : List Value} {Q' : Option Value → Heap → List Loc → Prop} (hM : Does l Z y bytes maxL ret [] rm (.ref a :: argsL).toArray h Q') (W : Nat) (hf : rm.frames + 1 ≤ R.frames) (hl : W + (maxL + 11) + rm.locals ≤ R.locals) (hc : cells + rm.cells ≤ R.cells) (hs : slots + rm.slots ≤ R.slots) (hsize : Ls.size = c.maxLocals) (hlen : ∀ sig, parseMethodDescriptor y.desc = some sig → argsL.length = sig.parameters.length) (hst : st = argsL.reverse ++ .ref a :: rest) (hW : (rest.map fun v => v.category).sum ≤ W) (hd : decode c.code pc = .ok (.invokevirtual index, 3)) (hn : pc + 3 = n)
    (k : ∀ v T' L', Stand p l e R s m args below meth c T' (locs ++ L') (cells + rm.cells) (slots + rm.slots) → Q' v T'.heap L' → Goes p e below s Q K N (T'.setTop (mkF m n Ls (v.toList ++ rest)))) : Goes p e below s Q K N (T.setTop (mkF m pc Ls st)) := by
  subst hn
  obtain ⟨cl, hcl, hob⟩ := E.cell
  obtain ⟨v, _, ⟨T', L, kk, nn⟩, -, X', ⟨Lc, hQ, l', y', z'⟩, st'⟩ := X.privateBack hx (y := y) hown (mvT hZ w1) (mvT hZ w6) (o_selpriv hy (mvT hZ wi) (mvP hZ w5) (mvT hZ w6)) (Cond.privateMethod_at (mvP hZ w5 (args := #[]))) (mvT hZ w4) hy (backOf (W := W) hM hZ w4 w3 hf hl) (g := mkF m pc Ls st) rfl hsize (Steps.refl _) (a := a) (by rw [eT]; exact hcl) hob (argsL := argsL) (rest := rest) hlen hst (by show 2 * 0 + _ ≤ _; omega) hd (fun _ _ => ⟨rfl, eT, hc, hs⟩)
  dsimp only [Pt.U, Pt.locs, Pt.cells, Pt.slots] at X' l' y' z' st' hQ
  subst l' y' z'
  exact (k v T' Lc X' hQ).via fun t q => st'.trans q
/-! returns -/
theorem o_retW (X : Stand p l e R s m args below meth c T locs cells slots) (hx : p.tables.exec = Jvm.exec) {t : FieldType} {w : Value} {i : Instr} (hret : meth.sig.returnType = some t) (hlk : meth.locks = false) (hnw : narrow t w = w)
    (hi : (i = .ireturn ∧ (t = .int ∨ t = .boolean ∨ t = .byte ∨ t = .char ∨ t = .short) ∧ ∃ z, w = .int z) ∨ (i = .lreturn ∧ t = .long ∧ ∃ z, w = .long z) ∨ (i = .dreturn ∧ t = .double ∧ ∃ z, w = .double z) ∨ (i = .freturn ∧ t = .float ∧ ∃ z, w = .float z) ∨ (i = .areturn ∧ t.isReference = true ∧ w.isRef = true))
    (hd : decode c.code pc = .ok (i, 1)) (hc : cells ≤ K) (hs : slots ≤ N) (eT : T.heap = h) (hQ : Q (some w) h locs) : Goes p e below s Q K N (T.setTop (mkF m pc Ls (w :: rest))) := by
  subst eT
  obtain ⟨fs, hr, hrun, hended, hW, hsame⟩ := X.leave (v := some w) (fun q => by rw [hret] at q; cases q) hlk
  exact ⟨_, _, retOut X hx hret hnw hi hd hr, hrun, hended, _, _, rfl, hQ, ⟨_, rfl⟩, hW, hsame.mono hc hs⟩
theorem o_ireturn (X : Stand p l e R s m args below meth c T locs cells slots) (hx : p.tables.exec = Jvm.exec) {x : Int32} (hret : meth.sig.returnType = some .int) (hlk : meth.locks = false) (hd : decode c.code pc = .ok (.ireturn, 1)) (hc : cells ≤ K) (hs : slots ≤ N) (eT : T.heap = h) (hQ : Q (some (.int x)) h locs) : Goes p e below s Q K N (T.setTop (mkF m pc Ls (.int x :: rest))) := o_retW X hx hret hlk rfl (Or.inl ⟨rfl, Or.inl rfl, x, rfl⟩) hd hc hs eT hQ
theorem o_lreturn (X : Stand p l e R s m args below meth c T locs cells slots) (hx : p.tables.exec = Jvm.exec) {x : Int64} (hret : meth.sig.returnType = some .long) (hlk : meth.locks = false) (hd : decode c.code pc = .ok (.lreturn, 1)) (hc : cells ≤ K) (hs : slots ≤ N) (eT : T.heap = h) (hQ : Q (some (.long x)) h locs) : Goes p e below s Q K N (T.setTop (mkF m pc Ls (.long x :: rest))) := o_retW X hx hret hlk rfl (Or.inr (Or.inl ⟨rfl, rfl, x, rfl⟩)) hd hc hs eT hQ
theorem o_areturn (X : Stand p l e R s m args below meth c T locs cells slots) (hx : p.tables.exec = Jvm.exec) {t : FieldType} {w : Value} (hret : meth.sig.returnType = some t) (hlk : meth.locks = false) (ht : t.isReference = true) (hw : w.isRef = true) (hd : decode c.code pc = .ok (.areturn, 1)) (hc : cells ≤ K) (hs : slots ≤ N) (eT : T.heap = h) (hQ : Q (some w) h locs) : Goes p e below s Q K N (T.setTop (mkF m pc Ls (w :: rest))) := o_retW X hx hret hlk (by cases t <;> first | rfl | cases ht) (Or.inr (Or.inr (Or.inr (Or.inr ⟨rfl, ht, hw⟩)))) hd hc hs eT hQ
/-- a boolean, byte, char or short: narrowed -/
theorem o_nreturn (X : Stand p l e R s m args below meth c T locs cells slots) (hx : p.tables.exec = Jvm.exec) {t : FieldType} {x : Int32} (hret : meth.sig.returnType = some t) (hlk : meth.locks = false) (ht : t = .boolean ∨ t = .byte ∨ t = .char ∨ t = .short) (hd : decode c.code pc = .ok (.ireturn, 1)) (hc : cells ≤ K) (hs : slots ≤ N) (eT : T.heap = h) (hQ : Q (some (.int (nar t x))) h locs) : Goes p e below s Q K N (T.setTop (mkF m pc Ls (.int x :: rest))) := by
  subst eT
  obtain ⟨fs, hr, hrun, hended, hW, hsame⟩ := X.leave (v := some (.int (nar t x))) (fun q => by rw [hret] at q; cases q) hlk
  exact ⟨_, _, retN X hx hret ht hd hr, hrun, hended, _, _, rfl, hQ, ⟨_, rfl⟩, hW, hsame.mono hc hs⟩
theorem o_return (X : Stand p l e R s m args below meth c T locs cells slots) (hx : p.tables.exec = Jvm.exec) (hret : meth.sig.returnType = none) (hlk : meth.locks = false) (hd : decode c.code pc = .ok (.return_, 1)) (hc : cells ≤ K) (hs : slots ≤ N) (eT : T.heap = h) (hQ : Q none h locs) : Goes p e below s Q K N (T.setTop (mkF m pc Ls [])) := by
  subst eT
  obtain ⟨fs, hr, hrun, hended, hW, hsame⟩ := X.leave (v := none) (fun _ => rfl) hlk
  exact ⟨_, _, X.returnOut hx hret hd hr, hrun, hended, _, _, rfl, hQ, ⟨_, rfl⟩, hW, hsame.mono hc hs⟩
/-- what a call that writes nothing promises -/
def Pur (h0 : Heap) (w : Value) (v : Option Value) (h : Heap) (L : List Loc) : Prop := v = some w ∧ h = h0 ∧ L = []
end Layer

theorem o_nz1 : nar .boolean (1 : Int32) = 1 := by decide
theorem o_nz0 : nar .boolean (0 : Int32) = 0 := by decide
theorem o_nar8 (x : Int32) : nar .byte x.toInt8.toInt32 = x.toInt8.toInt32 := by simp [nar]

theorem o_and_split (x m k n : Int64) (h1 : m &&& k = 0) (h2 : m ||| k = n) : (x &&& m) + (x &&& k) = x &&& n := by
  subst h2
  apply Int64.toBitVec_inj.mp
  show (x.toBitVec &&& m.toBitVec) + (x.toBitVec &&& k.toBitVec) = x.toBitVec &&& (m.toBitVec ||| k.toBitVec)
  have hb : m.toBitVec &&& k.toBitVec = 0#64 := congrArg Int64.toBitVec h1
  have hz : (x.toBitVec &&& m.toBitVec) &&& (x.toBitVec &&& k.toBitVec) = 0#64 := by
    apply BitVec.eq_of_getLsbD_eq
    intro i hi
    have := congrArg (fun b => BitVec.getLsbD b i) hb
    simp only [BitVec.getLsbD_and] at this ⊢
    cases h : x.toBitVec.getLsbD i <;> simp_all
  rw [BitVec.add_eq_or_of_and_eq_zero _ _ hz, BitVec.and_or_distrib_left]
theorem o_and_split32 (x m k n : Int32) (h1 : m &&& k = 0) (h2 : m ||| k = n) : (x &&& m) + (x &&& k) = x &&& n := by
  subst h2
  apply Int32.toBitVec_inj.mp
  show (x.toBitVec &&& m.toBitVec) + (x.toBitVec &&& k.toBitVec) = x.toBitVec &&& (m.toBitVec ||| k.toBitVec)
  have hb : m.toBitVec &&& k.toBitVec = 0#32 := congrArg Int32.toBitVec h1
  have hz : (x.toBitVec &&& m.toBitVec) &&& (x.toBitVec &&& k.toBitVec) = 0#32 := by
    apply BitVec.eq_of_getLsbD_eq
    intro i hi
    have := congrArg (fun b => BitVec.getLsbD b i) hb
    simp only [BitVec.getLsbD_and] at this ⊢
    cases h : x.toBitVec.getLsbD i <;> simp_all
  rw [BitVec.add_eq_or_of_and_eq_zero _ _ hz, BitVec.and_or_distrib_left]
theorem o_and_all (x : Int64) : x &&& (-1 : Int64) = x := by
  apply Int64.toBitVec_inj.mp
  show x.toBitVec &&& (-1 : Int64).toBitVec = x.toBitVec
  rw [show (-1 : Int64).toBitVec = BitVec.allOnes 64 by decide]
  exact BitVec.and_allOnes
theorem o_xall (x : Int64) : (x ^^^ (-1 : Int64)).toInt = -x.toInt - 1 := by
  have e : x ^^^ (-1 : Int64) = ~~~ x := by
    apply Int64.toBitVec_inj.mp
    show x.toBitVec ^^^ (-1 : Int64).toBitVec = ~~~ x.toBitVec
    rw [show (-1 : Int64).toBitVec = BitVec.allOnes 64 by decide]
    exact BitVec.xor_allOnes
  have r1 := Int64.le_toInt x; have r2 := Int64.toInt_lt x
  rw [e, Int64.toInt_not, XT.bmod64 ⟨by omega, by omega⟩]

def o_st (a : Int64) (b : Int32) : Int64 := (a <<< (8 : Int64)) ||| b.toInt64
theorem o_n11 (x : Int32) : (x &&& 2147483647) % 11 = 0 ∨ (x &&& 2147483647) % 11 = 1 ∨ (x &&& 2147483647) % 11 = 2 ∨ (x &&& 2147483647) % 11 = 3 ∨ (x &&& 2147483647) % 11 = 4 ∨ (x &&& 2147483647) % 11 = 5 ∨ (x &&& 2147483647) % 11 = 6 ∨ (x &&& 2147483647) % 11 = 7 ∨ (x &&& 2147483647) % 11 = 8 ∨ (x &&& 2147483647) % 11 = 9 ∨ (x &&& 2147483647) % 11 = 10 := by
  have a := c_mask x 2147483647 31 (by decide) (by decide)
  have b : 0 ≤ x.toInt % (2 ^ 31 : Nat) := Int.emod_nonneg _ (by decide)
  have d := (c_irem (x &&& 2147483647) 11 11 rfl).1 (by rw [a]; exact b)
  have e0 : (0 : Int32).toInt = 0 := rfl
  have e1 : (1 : Int32).toInt = 1 := rfl
  have e2 : (2 : Int32).toInt = 2 := rfl
  have e3 : (3 : Int32).toInt = 3 := rfl
  have e4 : (4 : Int32).toInt = 4 := rfl
  have e5 : (5 : Int32).toInt = 5 := rfl
  have e6 : (6 : Int32).toInt = 6 := rfl
  have e7 : (7 : Int32).toInt = 7 := rfl
  have e8 : (8 : Int32).toInt = 8 := rfl
  have e9 : (9 : Int32).toInt = 9 := rfl
  have e10 : (10 : Int32).toInt = 10 := rfl
  simp only [← Int32.toInt_inj]
  omega

/-- the first i bytes -/
def o_pre (x : Int64) (k : UInt64) : Int64 := (x.toUInt64 >>> k).toInt64

/-- a byte put behind: its value -/
theorem o_stv (a : Int64) (b : Int32) (h0 : 0 ≤ b.toInt) (h1 : b.toInt < 256) : ((o_st a b).toInt - (a.toInt * 256 + b.toInt)) % 18446744073709551616 = 0 := by
  unfold o_st
  have s1 : ((a <<< (8 : Int64)).toInt - a.toInt * (2 ^ 8 : Nat)) % 18446744073709551616 = 0 := c_lshl a 8 8 (by decide)
  have s2 := c_i2l b
  have s5 := c_orL (a <<< (8 : Int64)) b.toInt64 8 (by decide) 256 (by decide) (by omega) (by omega) (by omega)
  omega
theorem o_prev (x : Int64) (q : Int32) (k : Nat) (u : UInt64) (hk : q.toBitVec.toNat % 64 = k) (h0 : 0 < k) (hu : (q &&& 0x3f).toInt64.toUInt64 = u) : (o_pre x u).toInt = (x.toInt % 18446744073709551616) / (2 ^ k : Nat) := by
  subst hu
  exact c_lushr x q k hk h0
theorem o_byte (y : Int64) : (y.toInt32.toInt8.toInt32 &&& (255 : Int32)).toInt = y.toInt % 256 := by
  have a := c_mask y.toInt32.toInt8.toInt32 255 8 (by decide) (by decide)
  have b := (c_i2b y.toInt32).1
  have d := c_l2i y
  omega
theorem o_zero (a : Int64) : o_st a 0 = a <<< (8 : Int64) := by
  unfold o_st
  rw [show (0 : Int32).toInt64 = 0 from rfl, Int64.or_zero]
theorem o_step_0 (p0 : Int64) : o_st (0 : Int64) ((p0.toUInt64 >>> (56 : UInt64)).toInt64.toInt32.toInt8.toInt32 &&& (255 : Int32)) = (o_pre p0 56) := by
  apply Int64.toInt_inj.mp
  have b := o_byte (p0.toUInt64 >>> (56 : UInt64)).toInt64
  have p : (0 : Int64).toInt = 0 := rfl
  have q := o_prev p0 56 56 56 (by decide) (by decide) (by decide)
  have q' : (p0.toUInt64 >>> (56 : UInt64)).toInt64.toInt = _ := q
  have s := o_stv (0 : Int64) ((p0.toUInt64 >>> (56 : UInt64)).toInt64.toInt32.toInt8.toInt32 &&& (255 : Int32)) (by omega) (by omega)
  have ra1 := Int64.le_toInt p0; have rb1 := Int64.toInt_lt p0
  have ra2 := Int64.le_toInt (o_st (0 : Int64) ((p0.toUInt64 >>> (56 : UInt64)).toInt64.toInt32.toInt8.toInt32 &&& (255 : Int32))); have rb2 := Int64.toInt_lt (o_st (0 : Int64) ((p0.toUInt64 >>> (56 : UInt64)).toInt64.toInt32.toInt8.toInt32 &&& (255 : Int32)))
  omega
theorem o_step_1 (p0 : Int64) : o_st (o_pre p0 56) ((p0.toUInt64 >>> (48 : UInt64)).toInt64.toInt32.toInt8.toInt32 &&& (255 : Int32)) = (o_pre p0 48) := by
  apply Int64.toInt_inj.mp
  have b := o_byte (p0.toUInt64 >>> (48 : UInt64)).toInt64
  have p := o_prev p0 56 56 56 (by decide) (by decide) (by decide)
  have q := o_prev p0 48 48 48 (by decide) (by decide) (by decide)
  have q' : (p0.toUInt64 >>> (48 : UInt64)).toInt64.toInt = _ := q
  have s := o_stv (o_pre p0 56) ((p0.toUInt64 >>> (48 : UInt64)).toInt64.toInt32.toInt8.toInt32 &&& (255 : Int32)) (by omega) (by omega)
  have ra3 := Int64.le_toInt p0; have rb3 := Int64.toInt_lt p0
  have ra4 := Int64.le_toInt (o_st (o_pre p0 56) ((p0.toUInt64 >>> (48 : UInt64)).toInt64.toInt32.toInt8.toInt32 &&& (255 : Int32))); have rb4 := Int64.toInt_lt (o_st (o_pre p0 56) ((p0.toUInt64 >>> (48 : UInt64)).toInt64.toInt32.toInt8.toInt32 &&& (255 : Int32)))
  omega
theorem o_step_2 (p0 : Int64) : o_st (o_pre p0 48) ((p0.toUInt64 >>> (40 : UInt64)).toInt64.toInt32.toInt8.toInt32 &&& (255 : Int32)) = (o_pre p0 40) := by
  apply Int64.toInt_inj.mp
  have b := o_byte (p0.toUInt64 >>> (40 : UInt64)).toInt64
  have p := o_prev p0 48 48 48 (by decide) (by decide) (by decide)
  have q := o_prev p0 40 40 40 (by decide) (by decide) (by decide)
  have q' : (p0.toUInt64 >>> (40 : UInt64)).toInt64.toInt = _ := q
  have s := o_stv (o_pre p0 48) ((p0.toUInt64 >>> (40 : UInt64)).toInt64.toInt32.toInt8.toInt32 &&& (255 : Int32)) (by omega) (by omega)
  have ra5 := Int64.le_toInt p0; have rb5 := Int64.toInt_lt p0
  have ra6 := Int64.le_toInt (o_st (o_pre p0 48) ((p0.toUInt64 >>> (40 : UInt64)).toInt64.toInt32.toInt8.toInt32 &&& (255 : Int32))); have rb6 := Int64.toInt_lt (o_st (o_pre p0 48) ((p0.toUInt64 >>> (40 : UInt64)).toInt64.toInt32.toInt8.toInt32 &&& (255 : Int32)))
  omega
theorem o_step_3 (p0 : Int64) : o_st (o_pre p0 40) ((p0.toUInt64 >>> (32 : UInt64)).toInt64.toInt32.toInt8.toInt32 &&& (255 : Int32)) = (o_pre p0 32) := by
  apply Int64.toInt_inj.mp
  have b := o_byte (p0.toUInt64 >>> (32 : UInt64)).toInt64
  have p := o_prev p0 40 40 40 (by decide) (by decide) (by decide)
  have q := o_prev p0 32 32 32 (by decide) (by decide) (by decide)
  have q' : (p0.toUInt64 >>> (32 : UInt64)).toInt64.toInt = _ := q
  have s := o_stv (o_pre p0 40) ((p0.toUInt64 >>> (32 : UInt64)).toInt64.toInt32.toInt8.toInt32 &&& (255 : Int32)) (by omega) (by omega)
  have ra7 := Int64.le_toInt p0; have rb7 := Int64.toInt_lt p0
  have ra8 := Int64.le_toInt (o_st (o_pre p0 40) ((p0.toUInt64 >>> (32 : UInt64)).toInt64.toInt32.toInt8.toInt32 &&& (255 : Int32))); have rb8 := Int64.toInt_lt (o_st (o_pre p0 40) ((p0.toUInt64 >>> (32 : UInt64)).toInt64.toInt32.toInt8.toInt32 &&& (255 : Int32)))
  omega
theorem o_step_4 (p0 : Int64) : o_st (o_pre p0 32) ((p0.toUInt64 >>> (24 : UInt64)).toInt64.toInt32.toInt8.toInt32 &&& (255 : Int32)) = (o_pre p0 24) := by
  apply Int64.toInt_inj.mp
  have b := o_byte (p0.toUInt64 >>> (24 : UInt64)).toInt64
  have p := o_prev p0 32 32 32 (by decide) (by decide) (by decide)
  have q := o_prev p0 24 24 24 (by decide) (by decide) (by decide)
  have q' : (p0.toUInt64 >>> (24 : UInt64)).toInt64.toInt = _ := q
  have s := o_stv (o_pre p0 32) ((p0.toUInt64 >>> (24 : UInt64)).toInt64.toInt32.toInt8.toInt32 &&& (255 : Int32)) (by omega) (by omega)
  have ra9 := Int64.le_toInt p0; have rb9 := Int64.toInt_lt p0
  have ra10 := Int64.le_toInt (o_st (o_pre p0 32) ((p0.toUInt64 >>> (24 : UInt64)).toInt64.toInt32.toInt8.toInt32 &&& (255 : Int32))); have rb10 := Int64.toInt_lt (o_st (o_pre p0 32) ((p0.toUInt64 >>> (24 : UInt64)).toInt64.toInt32.toInt8.toInt32 &&& (255 : Int32)))
  omega
theorem o_step_5 (p0 : Int64) : o_st (o_pre p0 24) ((p0.toUInt64 >>> (16 : UInt64)).toInt64.toInt32.toInt8.toInt32 &&& (255 : Int32)) = (o_pre p0 16) := by
  apply Int64.toInt_inj.mp
  have b := o_byte (p0.toUInt64 >>> (16 : UInt64)).toInt64
  have p := o_prev p0 24 24 24 (by decide) (by decide) (by decide)
  have q := o_prev p0 16 16 16 (by decide) (by decide) (by decide)
  have q' : (p0.toUInt64 >>> (16 : UInt64)).toInt64.toInt = _ := q
  have s := o_stv (o_pre p0 24) ((p0.toUInt64 >>> (16 : UInt64)).toInt64.toInt32.toInt8.toInt32 &&& (255 : Int32)) (by omega) (by omega)
  have ra11 := Int64.le_toInt p0; have rb11 := Int64.toInt_lt p0
  have ra12 := Int64.le_toInt (o_st (o_pre p0 24) ((p0.toUInt64 >>> (16 : UInt64)).toInt64.toInt32.toInt8.toInt32 &&& (255 : Int32))); have rb12 := Int64.toInt_lt (o_st (o_pre p0 24) ((p0.toUInt64 >>> (16 : UInt64)).toInt64.toInt32.toInt8.toInt32 &&& (255 : Int32)))
  omega
theorem o_step_6 (p0 : Int64) : o_st (o_pre p0 16) ((p0.toUInt64 >>> (8 : UInt64)).toInt64.toInt32.toInt8.toInt32 &&& (255 : Int32)) = (o_pre p0 8) := by
  apply Int64.toInt_inj.mp
  have b := o_byte (p0.toUInt64 >>> (8 : UInt64)).toInt64
  have p := o_prev p0 16 16 16 (by decide) (by decide) (by decide)
  have q := o_prev p0 8 8 8 (by decide) (by decide) (by decide)
  have q' : (p0.toUInt64 >>> (8 : UInt64)).toInt64.toInt = _ := q
  have s := o_stv (o_pre p0 16) ((p0.toUInt64 >>> (8 : UInt64)).toInt64.toInt32.toInt8.toInt32 &&& (255 : Int32)) (by omega) (by omega)
  have ra13 := Int64.le_toInt p0; have rb13 := Int64.toInt_lt p0
  have ra14 := Int64.le_toInt (o_st (o_pre p0 16) ((p0.toUInt64 >>> (8 : UInt64)).toInt64.toInt32.toInt8.toInt32 &&& (255 : Int32))); have rb14 := Int64.toInt_lt (o_st (o_pre p0 16) ((p0.toUInt64 >>> (8 : UInt64)).toInt64.toInt32.toInt8.toInt32 &&& (255 : Int32)))
  omega
theorem o_step_7 (p0 : Int64) : o_st (o_pre p0 8) (p0.toInt32.toInt8.toInt32 &&& (255 : Int32)) = p0 := by
  apply Int64.toInt_inj.mp
  have b := o_byte p0
  have p := o_prev p0 8 8 8 (by decide) (by decide) (by decide)
  have s := o_stv (o_pre p0 8) (p0.toInt32.toInt8.toInt32 &&& (255 : Int32)) (by omega) (by omega)
  have ra15 := Int64.le_toInt p0; have rb15 := Int64.toInt_lt p0
  have ra16 := Int64.le_toInt (o_st (o_pre p0 8) (p0.toInt32.toInt8.toInt32 &&& (255 : Int32))); have rb16 := Int64.toInt_lt (o_st (o_pre p0 8) (p0.toInt32.toInt8.toInt32 &&& (255 : Int32)))
  omega
theorem o_eq_0 (p0 : Int64) : (o_st (o_st (o_st (o_st (o_st (o_st (o_st (o_st (0 : Int64) (0 : Int32)) (0 : Int32)) (0 : Int32)) (0 : Int32)) (0 : Int32)) (0 : Int32)) (0 : Int32)) (0 : Int32)) = (0 : Int64) := by decide
theorem o_eq_1 (p0 : Int64) : (o_st (o_st (o_st (o_st (o_st (o_st (o_st (o_st (0 : Int64) ((p0.toUInt64 >>> (56 : UInt64)).toInt64.toInt32.toInt8.toInt32 &&& (255 : Int32))) (0 : Int32)) (0 : Int32)) (0 : Int32)) (0 : Int32)) (0 : Int32)) (0 : Int32)) (0 : Int32)) = (p0 &&& (-72057594037927936 : Int64)) := by
  rw [o_step_0]
  simp only [o_zero]
  apply Int64.toInt_inj.mp
  have a := o_and_split p0 (-72057594037927936 : Int64) 72057594037927935 (-1) (by decide) (by decide)
  rw [o_and_all] at a
  have b : (p0 &&& (72057594037927935 : Int64)).toInt = p0.toInt % (2 ^ 56 : Nat) := c_maskL p0 72057594037927935 56 (by decide) (by decide)
  have d := c_ladd (p0 &&& (-72057594037927936 : Int64)) (p0 &&& (72057594037927935 : Int64))
  rw [a] at d
  have q := o_prev p0 56 56 56 (by decide) (by decide) (by decide)
  have u0 : (((o_pre p0 56) <<< (8 : Int64)).toInt - (o_pre p0 56).toInt * (2 ^ 8 : Nat)) % 18446744073709551616 = 0 := c_lshl (o_pre p0 56) 8 8 (by decide)
  have u1 : ((((o_pre p0 56) <<< (8 : Int64)) <<< (8 : Int64)).toInt - ((o_pre p0 56) <<< (8 : Int64)).toInt * (2 ^ 8 : Nat)) % 18446744073709551616 = 0 := c_lshl ((o_pre p0 56) <<< (8 : Int64)) 8 8 (by decide)
  have u2 : (((((o_pre p0 56) <<< (8 : Int64)) <<< (8 : Int64)) <<< (8 : Int64)).toInt - (((o_pre p0 56) <<< (8 : Int64)) <<< (8 : Int64)).toInt * (2 ^ 8 : Nat)) % 18446744073709551616 = 0 := c_lshl (((o_pre p0 56) <<< (8 : Int64)) <<< (8 : Int64)) 8 8 (by decide)
  have u3 : ((((((o_pre p0 56) <<< (8 : Int64)) <<< (8 : Int64)) <<< (8 : Int64)) <<< (8 : Int64)).toInt - ((((o_pre p0 56) <<< (8 : Int64)) <<< (8 : Int64)) <<< (8 : Int64)).toInt * (2 ^ 8 : Nat)) % 18446744073709551616 = 0 := c_lshl ((((o_pre p0 56) <<< (8 : Int64)) <<< (8 : Int64)) <<< (8 : Int64)) 8 8 (by decide)
  have u4 : (((((((o_pre p0 56) <<< (8 : Int64)) <<< (8 : Int64)) <<< (8 : Int64)) <<< (8 : Int64)) <<< (8 : Int64)).toInt - (((((o_pre p0 56) <<< (8 : Int64)) <<< (8 : Int64)) <<< (8 : Int64)) <<< (8 : Int64)).toInt * (2 ^ 8 : Nat)) % 18446744073709551616 = 0 := c_lshl (((((o_pre p0 56) <<< (8 : Int64)) <<< (8 : Int64)) <<< (8 : Int64)) <<< (8 : Int64)) 8 8 (by decide)
  have u5 : ((((((((o_pre p0 56) <<< (8 : Int64)) <<< (8 : Int64)) <<< (8 : Int64)) <<< (8 : Int64)) <<< (8 : Int64)) <<< (8 : Int64)).toInt - ((((((o_pre p0 56) <<< (8 : Int64)) <<< (8 : Int64)) <<< (8 : Int64)) <<< (8 : Int64)) <<< (8 : Int64)).toInt * (2 ^ 8 : Nat)) % 18446744073709551616 = 0 := c_lshl ((((((o_pre p0 56) <<< (8 : Int64)) <<< (8 : Int64)) <<< (8 : Int64)) <<< (8 : Int64)) <<< (8 : Int64)) 8 8 (by decide)
  have u6 : (((((((((o_pre p0 56) <<< (8 : Int64)) <<< (8 : Int64)) <<< (8 : Int64)) <<< (8 : Int64)) <<< (8 : Int64)) <<< (8 : Int64)) <<< (8 : Int64)).toInt - (((((((o_pre p0 56) <<< (8 : Int64)) <<< (8 : Int64)) <<< (8 : Int64)) <<< (8 : Int64)) <<< (8 : Int64)) <<< (8 : Int64)).toInt * (2 ^ 8 : Nat)) % 18446744073709551616 = 0 := c_lshl (((((((o_pre p0 56) <<< (8 : Int64)) <<< (8 : Int64)) <<< (8 : Int64)) <<< (8 : Int64)) <<< (8 : Int64)) <<< (8 : Int64)) 8 8 (by decide)
  have ra17 := Int64.le_toInt p0; have rb17 := Int64.toInt_lt p0
  have ra18 := Int64.le_toInt ((((((((o_pre p0 56) <<< (8 : Int64)) <<< (8 : Int64)) <<< (8 : Int64)) <<< (8 : Int64)) <<< (8 : Int64)) <<< (8 : Int64)) <<< (8 : Int64)); have rb18 := Int64.toInt_lt ((((((((o_pre p0 56) <<< (8 : Int64)) <<< (8 : Int64)) <<< (8 : Int64)) <<< (8 : Int64)) <<< (8 : Int64)) <<< (8 : Int64)) <<< (8 : Int64))
  have ra19 := Int64.le_toInt (p0 &&& (-72057594037927936 : Int64)); have rb19 := Int64.toInt_lt (p0 &&& (-72057594037927936 : Int64))
  omega
theorem o_eq_2 (p0 : Int64) : (o_st (o_st (o_st (o_st (o_st (o_st (o_st (o_st (0 : Int64) ((p0.toUInt64 >>> (56 : UInt64)).toInt64.toInt32.toInt8.toInt32 &&& (255 : Int32))) ((p0.toUInt64 >>> (48 : UInt64)).toInt64.toInt32.toInt8.toInt32 &&& (255 : Int32))) (0 : Int32)) (0 : Int32)) (0 : Int32)) (0 : Int32)) (0 : Int32)) (0 : Int32)) = (p0 &&& (-281474976710656 : Int64)) := by
  rw [o_step_0, o_step_1]
  simp only [o_zero]
  apply Int64.toInt_inj.mp
  have a := o_and_split p0 (-281474976710656 : Int64) 281474976710655 (-1) (by decide) (by decide)
  rw [o_and_all] at a
  have b : (p0 &&& (281474976710655 : Int64)).toInt = p0.toInt % (2 ^ 48 : Nat) := c_maskL p0 281474976710655 48 (by decide) (by decide)
  have d := c_ladd (p0 &&& (-281474976710656 : Int64)) (p0 &&& (281474976710655 : Int64))
  rw [a] at d
  have q := o_prev p0 48 48 48 (by decide) (by decide) (by decide)
  have u0 : (((o_pre p0 48) <<< (8 : Int64)).toInt - (o_pre p0 48).toInt * (2 ^ 8 : Nat)) % 18446744073709551616 = 0 := c_lshl (o_pre p0 48) 8 8 (by decide)
  have u1 : ((((o_pre p0 48) <<< (8 : Int64)) <<< (8 : Int64)).toInt - ((o_pre p0 48) <<< (8 : Int64)).toInt * (2 ^ 8 : Nat)) % 18446744073709551616 = 0 := c_lshl ((o_pre p0 48) <<< (8 : Int64)) 8 8 (by decide)
  have u2 : (((((o_pre p0 48) <<< (8 : Int64)) <<< (8 : Int64)) <<< (8 : Int64)).toInt - (((o_pre p0 48) <<< (8 : Int64)) <<< (8 : Int64)).toInt * (2 ^ 8 : Nat)) % 18446744073709551616 = 0 := c_lshl (((o_pre p0 48) <<< (8 : Int64)) <<< (8 : Int64)) 8 8 (by decide)
  have u3 : ((((((o_pre p0 48) <<< (8 : Int64)) <<< (8 : Int64)) <<< (8 : Int64)) <<< (8 : Int64)).toInt - ((((o_pre p0 48) <<< (8 : Int64)) <<< (8 : Int64)) <<< (8 : Int64)).toInt * (2 ^ 8 : Nat)) % 18446744073709551616 = 0 := c_lshl ((((o_pre p0 48) <<< (8 : Int64)) <<< (8 : Int64)) <<< (8 : Int64)) 8 8 (by decide)
  have u4 : (((((((o_pre p0 48) <<< (8 : Int64)) <<< (8 : Int64)) <<< (8 : Int64)) <<< (8 : Int64)) <<< (8 : Int64)).toInt - (((((o_pre p0 48) <<< (8 : Int64)) <<< (8 : Int64)) <<< (8 : Int64)) <<< (8 : Int64)).toInt * (2 ^ 8 : Nat)) % 18446744073709551616 = 0 := c_lshl (((((o_pre p0 48) <<< (8 : Int64)) <<< (8 : Int64)) <<< (8 : Int64)) <<< (8 : Int64)) 8 8 (by decide)
  have u5 : ((((((((o_pre p0 48) <<< (8 : Int64)) <<< (8 : Int64)) <<< (8 : Int64)) <<< (8 : Int64)) <<< (8 : Int64)) <<< (8 : Int64)).toInt - ((((((o_pre p0 48) <<< (8 : Int64)) <<< (8 : Int64)) <<< (8 : Int64)) <<< (8 : Int64)) <<< (8 : Int64)).toInt * (2 ^ 8 : Nat)) % 18446744073709551616 = 0 := c_lshl ((((((o_pre p0 48) <<< (8 : Int64)) <<< (8 : Int64)) <<< (8 : Int64)) <<< (8 : Int64)) <<< (8 : Int64)) 8 8 (by decide)
  have ra20 := Int64.le_toInt p0; have rb20 := Int64.toInt_lt p0
  have ra21 := Int64.le_toInt (((((((o_pre p0 48) <<< (8 : Int64)) <<< (8 : Int64)) <<< (8 : Int64)) <<< (8 : Int64)) <<< (8 : Int64)) <<< (8 : Int64)); have rb21 := Int64.toInt_lt (((((((o_pre p0 48) <<< (8 : Int64)) <<< (8 : Int64)) <<< (8 : Int64)) <<< (8 : Int64)) <<< (8 : Int64)) <<< (8 : Int64))
  have ra22 := Int64.le_toInt (p0 &&& (-281474976710656 : Int64)); have rb22 := Int64.toInt_lt (p0 &&& (-281474976710656 : Int64))
  omega
theorem o_eq_3 (p0 : Int64) : (o_st (o_st (o_st (o_st (o_st (o_st (o_st (o_st (0 : Int64) ((p0.toUInt64 >>> (56 : UInt64)).toInt64.toInt32.toInt8.toInt32 &&& (255 : Int32))) ((p0.toUInt64 >>> (48 : UInt64)).toInt64.toInt32.toInt8.toInt32 &&& (255 : Int32))) ((p0.toUInt64 >>> (40 : UInt64)).toInt64.toInt32.toInt8.toInt32 &&& (255 : Int32))) (0 : Int32)) (0 : Int32)) (0 : Int32)) (0 : Int32)) (0 : Int32)) = (p0 &&& (-1099511627776 : Int64)) := by
  rw [o_step_0, o_step_1, o_step_2]
  simp only [o_zero]
  apply Int64.toInt_inj.mp
  have a := o_and_split p0 (-1099511627776 : Int64) 1099511627775 (-1) (by decide) (by decide)
  rw [o_and_all] at a
  have b : (p0 &&& (1099511627775 : Int64)).toInt = p0.toInt % (2 ^ 40 : Nat) := c_maskL p0 1099511627775 40 (by decide) (by decide)
  have d := c_ladd (p0 &&& (-1099511627776 : Int64)) (p0 &&& (1099511627775 : Int64))
  rw [a] at d
  have q := o_prev p0 40 40 40 (by decide) (by decide) (by decide)
  have u0 : (((o_pre p0 40) <<< (8 : Int64)).toInt - (o_pre p0 40).toInt * (2 ^ 8 : Nat)) % 18446744073709551616 = 0 := c_lshl (o_pre p0 40) 8 8 (by decide)
  have u1 : ((((o_pre p0 40) <<< (8 : Int64)) <<< (8 : Int64)).toInt - ((o_pre p0 40) <<< (8 : Int64)).toInt * (2 ^ 8 : Nat)) % 18446744073709551616 = 0 := c_lshl ((o_pre p0 40) <<< (8 : Int64)) 8 8 (by decide)
  have u2 : (((((o_pre p0 40) <<< (8 : Int64)) <<< (8 : Int64)) <<< (8 : Int64)).toInt - (((o_pre p0 40) <<< (8 : Int64)) <<< (8 : Int64)).toInt * (2 ^ 8 : Nat)) % 18446744073709551616 = 0 := c_lshl (((o_pre p0 40) <<< (8 : Int64)) <<< (8 : Int64)) 8 8 (by decide)
  have u3 : ((((((o_pre p0 40) <<< (8 : Int64)) <<< (8 : Int64)) <<< (8 : Int64)) <<< (8 : Int64)).toInt - ((((o_pre p0 40) <<< (8 : Int64)) <<< (8 : Int64)) <<< (8 : Int64)).toInt * (2 ^ 8 : Nat)) % 18446744073709551616 = 0 := c_lshl ((((o_pre p0 40) <<< (8 : Int64)) <<< (8 : Int64)) <<< (8 : Int64)) 8 8 (by decide)
  have u4 : (((((((o_pre p0 40) <<< (8 : Int64)) <<< (8 : Int64)) <<< (8 : Int64)) <<< (8 : Int64)) <<< (8 : Int64)).toInt - (((((o_pre p0 40) <<< (8 : Int64)) <<< (8 : Int64)) <<< (8 : Int64)) <<< (8 : Int64)).toInt * (2 ^ 8 : Nat)) % 18446744073709551616 = 0 := c_lshl (((((o_pre p0 40) <<< (8 : Int64)) <<< (8 : Int64)) <<< (8 : Int64)) <<< (8 : Int64)) 8 8 (by decide)
  have ra23 := Int64.le_toInt p0; have rb23 := Int64.toInt_lt p0
  have ra24 := Int64.le_toInt ((((((o_pre p0 40) <<< (8 : Int64)) <<< (8 : Int64)) <<< (8 : Int64)) <<< (8 : Int64)) <<< (8 : Int64)); have rb24 := Int64.toInt_lt ((((((o_pre p0 40) <<< (8 : Int64)) <<< (8 : Int64)) <<< (8 : Int64)) <<< (8 : Int64)) <<< (8 : Int64))
  have ra25 := Int64.le_toInt (p0 &&& (-1099511627776 : Int64)); have rb25 := Int64.toInt_lt (p0 &&& (-1099511627776 : Int64))
  omega
theorem o_eq_4 (p0 : Int64) : (o_st (o_st (o_st (o_st (o_st (o_st (o_st (o_st (0 : Int64) ((p0.toUInt64 >>> (56 : UInt64)).toInt64.toInt32.toInt8.toInt32 &&& (255 : Int32))) ((p0.toUInt64 >>> (48 : UInt64)).toInt64.toInt32.toInt8.toInt32 &&& (255 : Int32))) ((p0.toUInt64 >>> (40 : UInt64)).toInt64.toInt32.toInt8.toInt32 &&& (255 : Int32))) ((p0.toUInt64 >>> (32 : UInt64)).toInt64.toInt32.toInt8.toInt32 &&& (255 : Int32))) (0 : Int32)) (0 : Int32)) (0 : Int32)) (0 : Int32)) = (p0 &&& (-4294967296 : Int64)) := by
  rw [o_step_0, o_step_1, o_step_2, o_step_3]
  simp only [o_zero]
  apply Int64.toInt_inj.mp
  have a := o_and_split p0 (-4294967296 : Int64) 4294967295 (-1) (by decide) (by decide)
  rw [o_and_all] at a
  have b : (p0 &&& (4294967295 : Int64)).toInt = p0.toInt % (2 ^ 32 : Nat) := c_maskL p0 4294967295 32 (by decide) (by decide)
  have d := c_ladd (p0 &&& (-4294967296 : Int64)) (p0 &&& (4294967295 : Int64))
  rw [a] at d
  have q := o_prev p0 32 32 32 (by decide) (by decide) (by decide)
  have u0 : (((o_pre p0 32) <<< (8 : Int64)).toInt - (o_pre p0 32).toInt * (2 ^ 8 : Nat)) % 18446744073709551616 = 0 := c_lshl (o_pre p0 32) 8 8 (by decide)
  have u1 : ((((o_pre p0 32) <<< (8 : Int64)) <<< (8 : Int64)).toInt - ((o_pre p0 32) <<< (8 : Int64)).toInt * (2 ^ 8 : Nat)) % 18446744073709551616 = 0 := c_lshl ((o_pre p0 32) <<< (8 : Int64)) 8 8 (by decide)
  have u2 : (((((o_pre p0 32) <<< (8 : Int64)) <<< (8 : Int64)) <<< (8 : Int64)).toInt - (((o_pre p0 32) <<< (8 : Int64)) <<< (8 : Int64)).toInt * (2 ^ 8 : Nat)) % 18446744073709551616 = 0 := c_lshl (((o_pre p0 32) <<< (8 : Int64)) <<< (8 : Int64)) 8 8 (by decide)
  have u3 : ((((((o_pre p0 32) <<< (8 : Int64)) <<< (8 : Int64)) <<< (8 : Int64)) <<< (8 : Int64)).toInt - ((((o_pre p0 32) <<< (8 : Int64)) <<< (8 : Int64)) <<< (8 : Int64)).toInt * (2 ^ 8 : Nat)) % 18446744073709551616 = 0 := c_lshl ((((o_pre p0 32) <<< (8 : Int64)) <<< (8 : Int64)) <<< (8 : Int64)) 8 8 (by decide)
  have ra26 := Int64.le_toInt p0; have rb26 := Int64.toInt_lt p0
  have ra27 := Int64.le_toInt (((((o_pre p0 32) <<< (8 : Int64)) <<< (8 : Int64)) <<< (8 : Int64)) <<< (8 : Int64)); have rb27 := Int64.toInt_lt (((((o_pre p0 32) <<< (8 : Int64)) <<< (8 : Int64)) <<< (8 : Int64)) <<< (8 : Int64))
  have ra28 := Int64.le_toInt (p0 &&& (-4294967296 : Int64)); have rb28 := Int64.toInt_lt (p0 &&& (-4294967296 : Int64))
  omega
theorem o_eq_5 (p0 : Int64) : (o_st (o_st (o_st (o_st (o_st (o_st (o_st (o_st (0 : Int64) ((p0.toUInt64 >>> (56 : UInt64)).toInt64.toInt32.toInt8.toInt32 &&& (255 : Int32))) ((p0.toUInt64 >>> (48 : UInt64)).toInt64.toInt32.toInt8.toInt32 &&& (255 : Int32))) ((p0.toUInt64 >>> (40 : UInt64)).toInt64.toInt32.toInt8.toInt32 &&& (255 : Int32))) ((p0.toUInt64 >>> (32 : UInt64)).toInt64.toInt32.toInt8.toInt32 &&& (255 : Int32))) ((p0.toUInt64 >>> (24 : UInt64)).toInt64.toInt32.toInt8.toInt32 &&& (255 : Int32))) (0 : Int32)) (0 : Int32)) (0 : Int32)) = (p0 &&& (-16777216 : Int64)) := by
  rw [o_step_0, o_step_1, o_step_2, o_step_3, o_step_4]
  simp only [o_zero]
  apply Int64.toInt_inj.mp
  have a := o_and_split p0 (-16777216 : Int64) 16777215 (-1) (by decide) (by decide)
  rw [o_and_all] at a
  have b : (p0 &&& (16777215 : Int64)).toInt = p0.toInt % (2 ^ 24 : Nat) := c_maskL p0 16777215 24 (by decide) (by decide)
  have d := c_ladd (p0 &&& (-16777216 : Int64)) (p0 &&& (16777215 : Int64))
  rw [a] at d
  have q := o_prev p0 24 24 24 (by decide) (by decide) (by decide)
  have u0 : (((o_pre p0 24) <<< (8 : Int64)).toInt - (o_pre p0 24).toInt * (2 ^ 8 : Nat)) % 18446744073709551616 = 0 := c_lshl (o_pre p0 24) 8 8 (by decide)
  have u1 : ((((o_pre p0 24) <<< (8 : Int64)) <<< (8 : Int64)).toInt - ((o_pre p0 24) <<< (8 : Int64)).toInt * (2 ^ 8 : Nat)) % 18446744073709551616 = 0 := c_lshl ((o_pre p0 24) <<< (8 : Int64)) 8 8 (by decide)
  have u2 : (((((o_pre p0 24) <<< (8 : Int64)) <<< (8 : Int64)) <<< (8 : Int64)).toInt - (((o_pre p0 24) <<< (8 : Int64)) <<< (8 : Int64)).toInt * (2 ^ 8 : Nat)) % 18446744073709551616 = 0 := c_lshl (((o_pre p0 24) <<< (8 : Int64)) <<< (8 : Int64)) 8 8 (by decide)
  have ra29 := Int64.le_toInt p0; have rb29 := Int64.toInt_lt p0
  have ra30 := Int64.le_toInt ((((o_pre p0 24) <<< (8 : Int64)) <<< (8 : Int64)) <<< (8 : Int64)); have rb30 := Int64.toInt_lt ((((o_pre p0 24) <<< (8 : Int64)) <<< (8 : Int64)) <<< (8 : Int64))
  have ra31 := Int64.le_toInt (p0 &&& (-16777216 : Int64)); have rb31 := Int64.toInt_lt (p0 &&& (-16777216 : Int64))
  omega
theorem o_eq_6 (p0 : Int64) : (o_st (o_st (o_st (o_st (o_st (o_st (o_st (o_st (0 : Int64) ((p0.toUInt64 >>> (56 : UInt64)).toInt64.toInt32.toInt8.toInt32 &&& (255 : Int32))) ((p0.toUInt64 >>> (48 : UInt64)).toInt64.toInt32.toInt8.toInt32 &&& (255 : Int32))) ((p0.toUInt64 >>> (40 : UInt64)).toInt64.toInt32.toInt8.toInt32 &&& (255 : Int32))) ((p0.toUInt64 >>> (32 : UInt64)).toInt64.toInt32.toInt8.toInt32 &&& (255 : Int32))) ((p0.toUInt64 >>> (24 : UInt64)).toInt64.toInt32.toInt8.toInt32 &&& (255 : Int32))) ((p0.toUInt64 >>> (16 : UInt64)).toInt64.toInt32.toInt8.toInt32 &&& (255 : Int32))) (0 : Int32)) (0 : Int32)) = (p0 &&& (-65536 : Int64)) := by
  rw [o_step_0, o_step_1, o_step_2, o_step_3, o_step_4, o_step_5]
  simp only [o_zero]
  apply Int64.toInt_inj.mp
  have a := o_and_split p0 (-65536 : Int64) 65535 (-1) (by decide) (by decide)
  rw [o_and_all] at a
  have b : (p0 &&& (65535 : Int64)).toInt = p0.toInt % (2 ^ 16 : Nat) := c_maskL p0 65535 16 (by decide) (by decide)
  have d := c_ladd (p0 &&& (-65536 : Int64)) (p0 &&& (65535 : Int64))
  rw [a] at d
  have q := o_prev p0 16 16 16 (by decide) (by decide) (by decide)
  have u0 : (((o_pre p0 16) <<< (8 : Int64)).toInt - (o_pre p0 16).toInt * (2 ^ 8 : Nat)) % 18446744073709551616 = 0 := c_lshl (o_pre p0 16) 8 8 (by decide)
  have u1 : ((((o_pre p0 16) <<< (8 : Int64)) <<< (8 : Int64)).toInt - ((o_pre p0 16) <<< (8 : Int64)).toInt * (2 ^ 8 : Nat)) % 18446744073709551616 = 0 := c_lshl ((o_pre p0 16) <<< (8 : Int64)) 8 8 (by decide)
  have ra32 := Int64.le_toInt p0; have rb32 := Int64.toInt_lt p0
  have ra33 := Int64.le_toInt (((o_pre p0 16) <<< (8 : Int64)) <<< (8 : Int64)); have rb33 := Int64.toInt_lt (((o_pre p0 16) <<< (8 : Int64)) <<< (8 : Int64))
  have ra34 := Int64.le_toInt (p0 &&& (-65536 : Int64)); have rb34 := Int64.toInt_lt (p0 &&& (-65536 : Int64))
  omega
theorem o_eq_7 (p0 : Int64) : (o_st (o_st (o_st (o_st (o_st (o_st (o_st (o_st (0 : Int64) ((p0.toUInt64 >>> (56 : UInt64)).toInt64.toInt32.toInt8.toInt32 &&& (255 : Int32))) ((p0.toUInt64 >>> (48 : UInt64)).toInt64.toInt32.toInt8.toInt32 &&& (255 : Int32))) ((p0.toUInt64 >>> (40 : UInt64)).toInt64.toInt32.toInt8.toInt32 &&& (255 : Int32))) ((p0.toUInt64 >>> (32 : UInt64)).toInt64.toInt32.toInt8.toInt32 &&& (255 : Int32))) ((p0.toUInt64 >>> (24 : UInt64)).toInt64.toInt32.toInt8.toInt32 &&& (255 : Int32))) ((p0.toUInt64 >>> (16 : UInt64)).toInt64.toInt32.toInt8.toInt32 &&& (255 : Int32))) ((p0.toUInt64 >>> (8 : UInt64)).toInt64.toInt32.toInt8.toInt32 &&& (255 : Int32))) (0 : Int32)) = (p0 &&& (-256 : Int64)) := by
  rw [o_step_0, o_step_1, o_step_2, o_step_3, o_step_4, o_step_5, o_step_6]
  simp only [o_zero]
  apply Int64.toInt_inj.mp
  have a := o_and_split p0 (-256 : Int64) 255 (-1) (by decide) (by decide)
  rw [o_and_all] at a
  have b : (p0 &&& (255 : Int64)).toInt = p0.toInt % (2 ^ 8 : Nat) := c_maskL p0 255 8 (by decide) (by decide)
  have d := c_ladd (p0 &&& (-256 : Int64)) (p0 &&& (255 : Int64))
  rw [a] at d
  have q := o_prev p0 8 8 8 (by decide) (by decide) (by decide)
  have u0 : (((o_pre p0 8) <<< (8 : Int64)).toInt - (o_pre p0 8).toInt * (2 ^ 8 : Nat)) % 18446744073709551616 = 0 := c_lshl (o_pre p0 8) 8 8 (by decide)
  have ra35 := Int64.le_toInt p0; have rb35 := Int64.toInt_lt p0
  have ra36 := Int64.le_toInt ((o_pre p0 8) <<< (8 : Int64)); have rb36 := Int64.toInt_lt ((o_pre p0 8) <<< (8 : Int64))
  have ra37 := Int64.le_toInt (p0 &&& (-256 : Int64)); have rb37 := Int64.toInt_lt (p0 &&& (-256 : Int64))
  omega
theorem o_eq_8 (p0 : Int64) : (o_st (o_st (o_st (o_st (o_st (o_st (o_st (o_st (0 : Int64) ((p0.toUInt64 >>> (56 : UInt64)).toInt64.toInt32.toInt8.toInt32 &&& (255 : Int32))) ((p0.toUInt64 >>> (48 : UInt64)).toInt64.toInt32.toInt8.toInt32 &&& (255 : Int32))) ((p0.toUInt64 >>> (40 : UInt64)).toInt64.toInt32.toInt8.toInt32 &&& (255 : Int32))) ((p0.toUInt64 >>> (32 : UInt64)).toInt64.toInt32.toInt8.toInt32 &&& (255 : Int32))) ((p0.toUInt64 >>> (24 : UInt64)).toInt64.toInt32.toInt8.toInt32 &&& (255 : Int32))) ((p0.toUInt64 >>> (16 : UInt64)).toInt64.toInt32.toInt8.toInt32 &&& (255 : Int32))) ((p0.toUInt64 >>> (8 : UInt64)).toInt64.toInt32.toInt8.toInt32 &&& (255 : Int32))) (p0.toInt32.toInt8.toInt32 &&& (255 : Int32))) = p0 := by
  rw [o_step_0, o_step_1, o_step_2, o_step_3, o_step_4, o_step_5, o_step_6, o_step_7]
theorem o_eq_9 (p0 : Int64) : (o_st (o_st (o_st (o_st (o_st (o_st (o_st (o_st (0 : Int64) ((p0.toUInt64 >>> (56 : UInt64)).toInt64.toInt32.toInt8.toInt32 &&& (255 : Int32))) ((p0.toUInt64 >>> (48 : UInt64)).toInt64.toInt32.toInt8.toInt32 &&& (255 : Int32))) ((p0.toUInt64 >>> (40 : UInt64)).toInt64.toInt32.toInt8.toInt32 &&& (255 : Int32))) ((p0.toUInt64 >>> (32 : UInt64)).toInt64.toInt32.toInt8.toInt32 &&& (255 : Int32))) ((p0.toUInt64 >>> (24 : UInt64)).toInt64.toInt32.toInt8.toInt32 &&& (255 : Int32))) ((p0.toUInt64 >>> (16 : UInt64)).toInt64.toInt32.toInt8.toInt32 &&& (255 : Int32))) ((p0.toUInt64 >>> (8 : UInt64)).toInt64.toInt32.toInt8.toInt32 &&& (255 : Int32))) (p0.toInt32.toInt8.toInt32 &&& (255 : Int32))) = p0 := by
  rw [o_step_0, o_step_1, o_step_2, o_step_3, o_step_4, o_step_5, o_step_6, o_step_7]
theorem o_eq_10 (p0 : Int64) : (o_st (o_st (o_st (o_st (o_st (o_st (o_st (o_st (0 : Int64) ((p0.toUInt64 >>> (56 : UInt64)).toInt64.toInt32.toInt8.toInt32 &&& (255 : Int32))) ((p0.toUInt64 >>> (48 : UInt64)).toInt64.toInt32.toInt8.toInt32 &&& (255 : Int32))) ((p0.toUInt64 >>> (40 : UInt64)).toInt64.toInt32.toInt8.toInt32 &&& (255 : Int32))) ((p0.toUInt64 >>> (32 : UInt64)).toInt64.toInt32.toInt8.toInt32 &&& (255 : Int32))) ((p0.toUInt64 >>> (24 : UInt64)).toInt64.toInt32.toInt8.toInt32 &&& (255 : Int32))) ((p0.toUInt64 >>> (16 : UInt64)).toInt64.toInt32.toInt8.toInt32 &&& (255 : Int32))) ((p0.toUInt64 >>> (8 : UInt64)).toInt64.toInt32.toInt8.toInt32 &&& (255 : Int32))) (p0.toInt32.toInt8.toInt32 &&& (255 : Int32))) = p0 := by
  rw [o_step_0, o_step_1, o_step_2, o_step_3, o_step_4, o_step_5, o_step_6, o_step_7]


theorem d_prog_28_method_5_code_0 : decode prog_28_method_5_code 0 = .ok (.lconst 0, 1) := by decide +kernel
theorem d_prog_28_method_5_code_1 : decode prog_28_method_5_code 1 = .ok (.lstore_n 1, 1) := by decide +kernel
theorem d_prog_28_method_5_code_2 : decode prog_28_method_5_code 2 = .ok (.iconst 0, 1) := by decide +kernel
theorem d_prog_28_method_5_code_3 : decode prog_28_method_5_code 3 = .ok (.istore_n 3, 1) := by decide +kernel
theorem d_prog_28_method_5_code_4 : decode prog_28_method_5_code 4 = .ok (.iload_n 3, 1) := by decide +kernel
theorem d_prog_28_method_5_code_5 : decode prog_28_method_5_code 5 = .ok (.bipush 8, 2) := by decide +kernel
theorem d_prog_28_method_5_code_7 : decode prog_28_method_5_code 7 = .ok (.if_icmp .ge 33, 3) := by decide +kernel
theorem d_prog_28_method_5_code_10 : decode prog_28_method_5_code 10 = .ok (.lload_n 1, 1) := by decide +kernel
theorem d_prog_28_method_5_code_11 : decode prog_28_method_5_code 11 = .ok (.bipush 8, 2) := by decide +kernel
theorem d_prog_28_method_5_code_13 : decode prog_28_method_5_code 13 = .ok (.lshl, 1) := by decide +kernel
theorem d_prog_28_method_5_code_14 : decode prog_28_method_5_code 14 = .ok (.iload_n 3, 1) := by decide +kernel
theorem d_prog_28_method_5_code_15 : decode prog_28_method_5_code 15 = .ok (.aload_n 0, 1) := by decide +kernel
theorem d_prog_28_method_5_code_16 : decode prog_28_method_5_code 16 = .ok (.arraylength, 1) := by decide +kernel
theorem d_prog_28_method_5_code_17 : decode prog_28_method_5_code 17 = .ok (.if_icmp .ge 13, 3) := by decide +kernel
theorem d_prog_28_method_5_code_30 : decode prog_28_method_5_code 30 = .ok (.iconst 0, 1) := by decide +kernel
theorem d_prog_28_method_5_code_31 : decode prog_28_method_5_code 31 = .ok (.i2l, 1) := by decide +kernel
theorem d_prog_28_method_5_code_32 : decode prog_28_method_5_code 32 = .ok (.lor, 1) := by decide +kernel
theorem d_prog_28_method_5_code_33 : decode prog_28_method_5_code 33 = .ok (.lstore_n 1, 1) := by decide +kernel
theorem d_prog_28_method_5_code_34 : decode prog_28_method_5_code 34 = .ok (.iinc 3 1, 3) := by decide +kernel
theorem d_prog_28_method_5_code_37 : decode prog_28_method_5_code 37 = .ok (.goto (-33), 3) := by decide +kernel
theorem d_prog_28_method_5_code_40 : decode prog_28_method_5_code 40 = .ok (.lload_n 1, 1) := by decide +kernel
theorem d_prog_28_method_5_code_41 : decode prog_28_method_5_code 41 = .ok (.lreturn, 1) := by decide +kernel
theorem o_ef1 (m : MethodId) (a1 : Addr) : entryFrame m #[(.ref a1)] 4 = mkF m 0 #[.val (.ref a1), .unset, .unset, .unset] [] := by first | (simp [entryFrame, mkF, argsToLocals, Value.category]; done) | rfl
theorem o_pn0 : plainName "com/example/variform/variform/variant/Utf8" = true := by first | (simp [plainName, overriddenIn]; done) | decide +kernel
set_option maxRecDepth 65536 in
set_option maxHeartbeats 40000000 in
theorem c_head_0 (l : Launch) (Z : State) (a0 : Array Value) (hw : ∀ d ∈ tables_1, d.before a0 Z = true) (a1 : Addr) (k1 : ClassId) (h0 : Heap) (pV_a1 : Arv Z h0 a1 k1 .byte (0 : Int32) [] (.int (0 : Int32))) :
    Does l Z (⟨"com/example/variform/variform/variant/Utf8", "head", "([B)J"⟩ : MethodName) prog_28_method_5_code 4 (some .long) [] ({ frames := 0, cells := 0, slots := 0, locals := 0 } : Room) #[(.ref a1)] h0 (Pur h0 (.long (o_st (o_st (o_st (o_st (o_st (o_st (o_st (o_st (0 : Int64) (0 : Int32)) (0 : Int32)) (0 : Int32)) (0 : Int32)) (0 : Int32)) (0 : Int32)) (0 : Int32)) (0 : Int32)))) := by
  refine Does.of (plainFor_of_name o_pn0) ?_
  intro p e s m below meth c T0 hx hby hml hown hnm hret hlk hZ X0 e0
  have hown : s.vm.findClass "com/example/variform/variform/variant/Utf8" = some m.cls := hown
  have hml : c.maxLocals = 4 := hml
  have hret : meth.sig.returnType = some .long := hret
  refine o_entry (o_ef1 m a1) ?_
  refine o_lconst X0 hx (hb hby d_prog_28_method_5_code_0) (v := (0 : Int64)) rfl (n := 1) rfl ?_
  refine o_lstoreN X0 hx (hb hby d_prog_28_method_5_code_1) (Ls' := #[.val (.ref a1), .val (.long (0 : Int64)), .second, .unset]) rfl (n := 2) rfl ?_
  refine o_iconst X0 hx (hb hby d_prog_28_method_5_code_2) (v := (0 : Int32)) rfl (n := 3) rfl ?_
  refine o_istoreN X0 hx (hb hby d_prog_28_method_5_code_3) (Ls' := #[.val (.ref a1), .val (.long (0 : Int64)), .second, .val (.int (0 : Int32))]) rfl (n := 4) rfl ?_
  refine o_iloadN X0 hx (hb hby d_prog_28_method_5_code_4) (v := (0 : Int32)) rfl (n := 5) rfl ?_
  refine o_bipush X0 hx (hb hby d_prog_28_method_5_code_5) (v := (8 : Int32)) rfl (n := 7) rfl ?_
  refine o_icmpN X0 hx (hb hby d_prog_28_method_5_code_7) (XT.ii_ge_f (by decide)) (n := 10) rfl ?_
  refine o_lloadN X0 hx (hb hby d_prog_28_method_5_code_10) (v := (0 : Int64)) rfl (n := 11) rfl ?_
  refine o_bipush X0 hx (hb hby d_prog_28_method_5_code_11) (v := (8 : Int32)) rfl (n := 13) rfl ?_
  refine o_lshl X0 hx (hb hby d_prog_28_method_5_code_13) (v := ((0 : Int64) <<< (8 : Int64))) rfl (n := 14) rfl ?_
  refine o_iloadN X0 hx (hb hby d_prog_28_method_5_code_14) (v := (0 : Int32)) rfl (n := 15) rfl ?_
  refine o_aloadN X0 hx (hb hby d_prog_28_method_5_code_15) (v := (.ref a1)) rfl rfl (n := 16) rfl ?_
  refine o_arraylength X0 hx hZ e0 pV_a1 (hb hby d_prog_28_method_5_code_16) (n := 17) rfl ?_
  refine o_icmpY X0 hx (hb hby d_prog_28_method_5_code_17) (XT.ii_ge_t (by decide)) (by decide) (n := 30) (by decide) ?_
  refine o_iconst X0 hx (hb hby d_prog_28_method_5_code_30) (v := (0 : Int32)) rfl (n := 31) rfl ?_
  refine o_i2l X0 hx (hb hby d_prog_28_method_5_code_31) (v := (0 : Int64)) (by decide) (n := 32) rfl ?_
  refine o_lor X0 hx (hb hby d_prog_28_method_5_code_32) (v := (o_st (0 : Int64) (0 : Int32))) rfl (n := 33) rfl ?_
  refine o_lstoreN X0 hx (hb hby d_prog_28_method_5_code_33) (Ls' := #[.val (.ref a1), .val (.long (o_st (0 : Int64) (0 : Int32))), .second, .val (.int (0 : Int32))]) rfl (n := 34) rfl ?_
  refine o_iinc X0 hx (hb hby d_prog_28_method_5_code_34) (w := (1 : Int32)) rfl (by decide) (Ls' := #[.val (.ref a1), .val (.long (o_st (0 : Int64) (0 : Int32))), .second, .val (.int (1 : Int32))]) rfl (n := 37) rfl ?_
  refine o_goto X0 hx (hb hby d_prog_28_method_5_code_37) (by decide) (n := 4) (by decide) ?_
  refine o_iloadN X0 hx (hb hby d_prog_28_method_5_code_4) (v := (1 : Int32)) rfl (n := 5) rfl ?_
  refine o_bipush X0 hx (hb hby d_prog_28_method_5_code_5) (v := (8 : Int32)) rfl (n := 7) rfl ?_
  refine o_icmpN X0 hx (hb hby d_prog_28_method_5_code_7) (XT.ii_ge_f (by decide)) (n := 10) rfl ?_
  refine o_lloadN X0 hx (hb hby d_prog_28_method_5_code_10) (v := (o_st (0 : Int64) (0 : Int32))) rfl (n := 11) rfl ?_
  refine o_bipush X0 hx (hb hby d_prog_28_method_5_code_11) (v := (8 : Int32)) rfl (n := 13) rfl ?_
  refine o_lshl X0 hx (hb hby d_prog_28_method_5_code_13) (v := ((o_st (0 : Int64) (0 : Int32)) <<< (8 : Int64))) rfl (n := 14) rfl ?_
  refine o_iloadN X0 hx (hb hby d_prog_28_method_5_code_14) (v := (1 : Int32)) rfl (n := 15) rfl ?_
  refine o_aloadN X0 hx (hb hby d_prog_28_method_5_code_15) (v := (.ref a1)) rfl rfl (n := 16) rfl ?_
  refine o_arraylength X0 hx hZ e0 pV_a1 (hb hby d_prog_28_method_5_code_16) (n := 17) rfl ?_
  refine o_icmpY X0 hx (hb hby d_prog_28_method_5_code_17) (XT.ii_ge_t (by decide)) (by decide) (n := 30) (by decide) ?_
  refine o_iconst X0 hx (hb hby d_prog_28_method_5_code_30) (v := (0 : Int32)) rfl (n := 31) rfl ?_
  refine o_i2l X0 hx (hb hby d_prog_28_method_5_code_31) (v := (0 : Int64)) (by decide) (n := 32) rfl ?_
  refine o_lor X0 hx (hb hby d_prog_28_method_5_code_32) (v := (o_st (o_st (0 : Int64) (0 : Int32)) (0 : Int32))) rfl (n := 33) rfl ?_
  refine o_lstoreN X0 hx (hb hby d_prog_28_method_5_code_33) (Ls' := #[.val (.ref a1), .val (.long (o_st (o_st (0 : Int64) (0 : Int32)) (0 : Int32))), .second, .val (.int (1 : Int32))]) rfl (n := 34) rfl ?_
  refine o_iinc X0 hx (hb hby d_prog_28_method_5_code_34) (w := (2 : Int32)) rfl (by decide) (Ls' := #[.val (.ref a1), .val (.long (o_st (o_st (0 : Int64) (0 : Int32)) (0 : Int32))), .second, .val (.int (2 : Int32))]) rfl (n := 37) rfl ?_
  refine o_goto X0 hx (hb hby d_prog_28_method_5_code_37) (by decide) (n := 4) (by decide) ?_
  refine o_iloadN X0 hx (hb hby d_prog_28_method_5_code_4) (v := (2 : Int32)) rfl (n := 5) rfl ?_
  refine o_bipush X0 hx (hb hby d_prog_28_method_5_code_5) (v := (8 : Int32)) rfl (n := 7) rfl ?_
  refine o_icmpN X0 hx (hb hby d_prog_28_method_5_code_7) (XT.ii_ge_f (by decide)) (n := 10) rfl ?_
  refine o_lloadN X0 hx (hb hby d_prog_28_method_5_code_10) (v := (o_st (o_st (0 : Int64) (0 : Int32)) (0 : Int32))) rfl (n := 11) rfl ?_
  refine o_bipush X0 hx (hb hby d_prog_28_method_5_code_11) (v := (8 : Int32)) rfl (n := 13) rfl ?_
  refine o_lshl X0 hx (hb hby d_prog_28_method_5_code_13) (v := ((o_st (o_st (0 : Int64) (0 : Int32)) (0 : Int32)) <<< (8 : Int64))) rfl (n := 14) rfl ?_
  refine o_iloadN X0 hx (hb hby d_prog_28_method_5_code_14) (v := (2 : Int32)) rfl (n := 15) rfl ?_
  refine o_aloadN X0 hx (hb hby d_prog_28_method_5_code_15) (v := (.ref a1)) rfl rfl (n := 16) rfl ?_
  refine o_arraylength X0 hx hZ e0 pV_a1 (hb hby d_prog_28_method_5_code_16) (n := 17) rfl ?_
  refine o_icmpY X0 hx (hb hby d_prog_28_method_5_code_17) (XT.ii_ge_t (by decide)) (by decide) (n := 30) (by decide) ?_
  refine o_iconst X0 hx (hb hby d_prog_28_method_5_code_30) (v := (0 : Int32)) rfl (n := 31) rfl ?_
  refine o_i2l X0 hx (hb hby d_prog_28_method_5_code_31) (v := (0 : Int64)) (by decide) (n := 32) rfl ?_
  refine o_lor X0 hx (hb hby d_prog_28_method_5_code_32) (v := (o_st (o_st (o_st (0 : Int64) (0 : Int32)) (0 : Int32)) (0 : Int32))) rfl (n := 33) rfl ?_
  refine o_lstoreN X0 hx (hb hby d_prog_28_method_5_code_33) (Ls' := #[.val (.ref a1), .val (.long (o_st (o_st (o_st (0 : Int64) (0 : Int32)) (0 : Int32)) (0 : Int32))), .second, .val (.int (2 : Int32))]) rfl (n := 34) rfl ?_
  refine o_iinc X0 hx (hb hby d_prog_28_method_5_code_34) (w := (3 : Int32)) rfl (by decide) (Ls' := #[.val (.ref a1), .val (.long (o_st (o_st (o_st (0 : Int64) (0 : Int32)) (0 : Int32)) (0 : Int32))), .second, .val (.int (3 : Int32))]) rfl (n := 37) rfl ?_
  refine o_goto X0 hx (hb hby d_prog_28_method_5_code_37) (by decide) (n := 4) (by decide) ?_
  refine o_iloadN X0 hx (hb hby d_prog_28_method_5_code_4) (v := (3 : Int32)) rfl (n := 5) rfl ?_
  refine o_bipush X0 hx (hb hby d_prog_28_method_5_code_5) (v := (8 : Int32)) rfl (n := 7) rfl ?_
  refine o_icmpN X0 hx (hb hby d_prog_28_method_5_code_7) (XT.ii_ge_f (by decide)) (n := 10) rfl ?_
  refine o_lloadN X0 hx (hb hby d_prog_28_method_5_code_10) (v := (o_st (o_st (o_st (0 : Int64) (0 : Int32)) (0 : Int32)) (0 : Int32))) rfl (n := 11) rfl ?_
  refine o_bipush X0 hx (hb hby d_prog_28_method_5_code_11) (v := (8 : Int32)) rfl (n := 13) rfl ?_
  refine o_lshl X0 hx (hb hby d_prog_28_method_5_code_13) (v := ((o_st (o_st (o_st (0 : Int64) (0 : Int32)) (0 : Int32)) (0 : Int32)) <<< (8 : Int64))) rfl (n := 14) rfl ?_
  refine o_iloadN X0 hx (hb hby d_prog_28_method_5_code_14) (v := (3 : Int32)) rfl (n := 15) rfl ?_
  refine o_aloadN X0 hx (hb hby d_prog_28_method_5_code_15) (v := (.ref a1)) rfl rfl (n := 16) rfl ?_
  refine o_arraylength X0 hx hZ e0 pV_a1 (hb hby d_prog_28_method_5_code_16) (n := 17) rfl ?_
  refine o_icmpY X0 hx (hb hby d_prog_28_method_5_code_17) (XT.ii_ge_t (by decide)) (by decide) (n := 30) (by decide) ?_
  refine o_iconst X0 hx (hb hby d_prog_28_method_5_code_30) (v := (0 : Int32)) rfl (n := 31) rfl ?_
  refine o_i2l X0 hx (hb hby d_prog_28_method_5_code_31) (v := (0 : Int64)) (by decide) (n := 32) rfl ?_
  refine o_lor X0 hx (hb hby d_prog_28_method_5_code_32) (v := (o_st (o_st (o_st (o_st (0 : Int64) (0 : Int32)) (0 : Int32)) (0 : Int32)) (0 : Int32))) rfl (n := 33) rfl ?_
  refine o_lstoreN X0 hx (hb hby d_prog_28_method_5_code_33) (Ls' := #[.val (.ref a1), .val (.long (o_st (o_st (o_st (o_st (0 : Int64) (0 : Int32)) (0 : Int32)) (0 : Int32)) (0 : Int32))), .second, .val (.int (3 : Int32))]) rfl (n := 34) rfl ?_
  refine o_iinc X0 hx (hb hby d_prog_28_method_5_code_34) (w := (4 : Int32)) rfl (by decide) (Ls' := #[.val (.ref a1), .val (.long (o_st (o_st (o_st (o_st (0 : Int64) (0 : Int32)) (0 : Int32)) (0 : Int32)) (0 : Int32))), .second, .val (.int (4 : Int32))]) rfl (n := 37) rfl ?_
  refine o_goto X0 hx (hb hby d_prog_28_method_5_code_37) (by decide) (n := 4) (by decide) ?_
  refine o_iloadN X0 hx (hb hby d_prog_28_method_5_code_4) (v := (4 : Int32)) rfl (n := 5) rfl ?_
  refine o_bipush X0 hx (hb hby d_prog_28_method_5_code_5) (v := (8 : Int32)) rfl (n := 7) rfl ?_
  refine o_icmpN X0 hx (hb hby d_prog_28_method_5_code_7) (XT.ii_ge_f (by decide)) (n := 10) rfl ?_
  refine o_lloadN X0 hx (hb hby d_prog_28_method_5_code_10) (v := (o_st (o_st (o_st (o_st (0 : Int64) (0 : Int32)) (0 : Int32)) (0 : Int32)) (0 : Int32))) rfl (n := 11) rfl ?_
  refine o_bipush X0 hx (hb hby d_prog_28_method_5_code_11) (v := (8 : Int32)) rfl (n := 13) rfl ?_
  refine o_lshl X0 hx (hb hby d_prog_28_method_5_code_13) (v := ((o_st (o_st (o_st (o_st (0 : Int64) (0 : Int32)) (0 : Int32)) (0 : Int32)) (0 : Int32)) <<< (8 : Int64))) rfl (n := 14) rfl ?_
  refine o_iloadN X0 hx (hb hby d_prog_28_method_5_code_14) (v := (4 : Int32)) rfl (n := 15) rfl ?_
  refine o_aloadN X0 hx (hb hby d_prog_28_method_5_code_15) (v := (.ref a1)) rfl rfl (n := 16) rfl ?_
  refine o_arraylength X0 hx hZ e0 pV_a1 (hb hby d_prog_28_method_5_code_16) (n := 17) rfl ?_
  refine o_icmpY X0 hx (hb hby d_prog_28_method_5_code_17) (XT.ii_ge_t (by decide)) (by decide) (n := 30) (by decide) ?_
  refine o_iconst X0 hx (hb hby d_prog_28_method_5_code_30) (v := (0 : Int32)) rfl (n := 31) rfl ?_
  refine o_i2l X0 hx (hb hby d_prog_28_method_5_code_31) (v := (0 : Int64)) (by decide) (n := 32) rfl ?_
  refine o_lor X0 hx (hb hby d_prog_28_method_5_code_32) (v := (o_st (o_st (o_st (o_st (o_st (0 : Int64) (0 : Int32)) (0 : Int32)) (0 : Int32)) (0 : Int32)) (0 : Int32))) rfl (n := 33) rfl ?_
  refine o_lstoreN X0 hx (hb hby d_prog_28_method_5_code_33) (Ls' := #[.val (.ref a1), .val (.long (o_st (o_st (o_st (o_st (o_st (0 : Int64) (0 : Int32)) (0 : Int32)) (0 : Int32)) (0 : Int32)) (0 : Int32))), .second, .val (.int (4 : Int32))]) rfl (n := 34) rfl ?_
  refine o_iinc X0 hx (hb hby d_prog_28_method_5_code_34) (w := (5 : Int32)) rfl (by decide) (Ls' := #[.val (.ref a1), .val (.long (o_st (o_st (o_st (o_st (o_st (0 : Int64) (0 : Int32)) (0 : Int32)) (0 : Int32)) (0 : Int32)) (0 : Int32))), .second, .val (.int (5 : Int32))]) rfl (n := 37) rfl ?_
  refine o_goto X0 hx (hb hby d_prog_28_method_5_code_37) (by decide) (n := 4) (by decide) ?_
  refine o_iloadN X0 hx (hb hby d_prog_28_method_5_code_4) (v := (5 : Int32)) rfl (n := 5) rfl ?_
  refine o_bipush X0 hx (hb hby d_prog_28_method_5_code_5) (v := (8 : Int32)) rfl (n := 7) rfl ?_
  refine o_icmpN X0 hx (hb hby d_prog_28_method_5_code_7) (XT.ii_ge_f (by decide)) (n := 10) rfl ?_
  refine o_lloadN X0 hx (hb hby d_prog_28_method_5_code_10) (v := (o_st (o_st (o_st (o_st (o_st (0 : Int64) (0 : Int32)) (0 : Int32)) (0 : Int32)) (0 : Int32)) (0 : Int32))) rfl (n := 11) rfl ?_
  refine o_bipush X0 hx (hb hby d_prog_28_method_5_code_11) (v := (8 : Int32)) rfl (n := 13) rfl ?_
  refine o_lshl X0 hx (hb hby d_prog_28_method_5_code_13) (v := ((o_st (o_st (o_st (o_st (o_st (0 : Int64) (0 : Int32)) (0 : Int32)) (0 : Int32)) (0 : Int32)) (0 : Int32)) <<< (8 : Int64))) rfl (n := 14) rfl ?_
  refine o_iloadN X0 hx (hb hby d_prog_28_method_5_code_14) (v := (5 : Int32)) rfl (n := 15) rfl ?_
  refine o_aloadN X0 hx (hb hby d_prog_28_method_5_code_15) (v := (.ref a1)) rfl rfl (n := 16) rfl ?_
  refine o_arraylength X0 hx hZ e0 pV_a1 (hb hby d_prog_28_method_5_code_16) (n := 17) rfl ?_
  refine o_icmpY X0 hx (hb hby d_prog_28_method_5_code_17) (XT.ii_ge_t (by decide)) (by decide) (n := 30) (by decide) ?_
  refine o_iconst X0 hx (hb hby d_prog_28_method_5_code_30) (v := (0 : Int32)) rfl (n := 31) rfl ?_
  refine o_i2l X0 hx (hb hby d_prog_28_method_5_code_31) (v := (0 : Int64)) (by decide) (n := 32) rfl ?_
  refine o_lor X0 hx (hb hby d_prog_28_method_5_code_32) (v := (o_st (o_st (o_st (o_st (o_st (o_st (0 : Int64) (0 : Int32)) (0 : Int32)) (0 : Int32)) (0 : Int32)) (0 : Int32)) (0 : Int32))) rfl (n := 33) rfl ?_
  refine o_lstoreN X0 hx (hb hby d_prog_28_method_5_code_33) (Ls' := #[.val (.ref a1), .val (.long (o_st (o_st (o_st (o_st (o_st (o_st (0 : Int64) (0 : Int32)) (0 : Int32)) (0 : Int32)) (0 : Int32)) (0 : Int32)) (0 : Int32))), .second, .val (.int (5 : Int32))]) rfl (n := 34) rfl ?_
  refine o_iinc X0 hx (hb hby d_prog_28_method_5_code_34) (w := (6 : Int32)) rfl (by decide) (Ls' := #[.val (.ref a1), .val (.long (o_st (o_st (o_st (o_st (o_st (o_st (0 : Int64) (0 : Int32)) (0 : Int32)) (0 : Int32)) (0 : Int32)) (0 : Int32)) (0 : Int32))), .second, .val (.int (6 : Int32))]) rfl (n := 37) rfl ?_
  refine o_goto X0 hx (hb hby d_prog_28_method_5_code_37) (by decide) (n := 4) (by decide) ?_
  refine o_iloadN X0 hx (hb hby d_prog_28_method_5_code_4) (v := (6 : Int32)) rfl (n := 5) rfl ?_
  refine o_bipush X0 hx (hb hby d_prog_28_method_5_code_5) (v := (8 : Int32)) rfl (n := 7) rfl ?_
  refine o_icmpN X0 hx (hb hby d_prog_28_method_5_code_7) (XT.ii_ge_f (by decide)) (n := 10) rfl ?_
  refine o_lloadN X0 hx (hb hby d_prog_28_method_5_code_10) (v := (o_st (o_st (o_st (o_st (o_st (o_st (0 : Int64) (0 : Int32)) (0 : Int32)) (0 : Int32)) (0 : Int32)) (0 : Int32)) (0 : Int32))) rfl (n := 11) rfl ?_
  refine o_bipush X0 hx (hb hby d_prog_28_method_5_code_11) (v := (8 : Int32)) rfl (n := 13) rfl ?_
  refine o_lshl X0 hx (hb hby d_prog_28_method_5_code_13) (v := ((o_st (o_st (o_st (o_st (o_st (o_st (0 : Int64) (0 : Int32)) (0 : Int32)) (0 : Int32)) (0 : Int32)) (0 : Int32)) (0 : Int32)) <<< (8 : Int64))) rfl (n := 14) rfl ?_
  refine o_iloadN X0 hx (hb hby d_prog_28_method_5_code_14) (v := (6 : Int32)) rfl (n := 15) rfl ?_
  refine o_aloadN X0 hx (hb hby d_prog_28_method_5_code_15) (v := (.ref a1)) rfl rfl (n := 16) rfl ?_
  refine o_arraylength X0 hx hZ e0 pV_a1 (hb hby d_prog_28_method_5_code_16) (n := 17) rfl ?_
  refine o_icmpY X0 hx (hb hby d_prog_28_method_5_code_17) (XT.ii_ge_t (by decide)) (by decide) (n := 30) (by decide) ?_
  refine o_iconst X0 hx (hb hby d_prog_28_method_5_code_30) (v := (0 : Int32)) rfl (n := 31) rfl ?_
  refine o_i2l X0 hx (hb hby d_prog_28_method_5_code_31) (v := (0 : Int64)) (by decide) (n := 32) rfl ?_
  refine o_lor X0 hx (hb hby d_prog_28_method_5_code_32) (v := (o_st (o_st (o_st (o_st (o_st (o_st (o_st (0 : Int64) (0 : Int32)) (0 : Int32)) (0 : Int32)) (0 : Int32)) (0 : Int32)) (0 : Int32)) (0 : Int32))) rfl (n := 33) rfl ?_
  refine o_lstoreN X0 hx (hb hby d_prog_28_method_5_code_33) (Ls' := #[.val (.ref a1), .val (.long (o_st (o_st (o_st (o_st (o_st (o_st (o_st (0 : Int64) (0 : Int32)) (0 : Int32)) (0 : Int32)) (0 : Int32)) (0 : Int32)) (0 : Int32)) (0 : Int32))), .second, .val (.int (6 : Int32))]) rfl (n := 34) rfl ?_
  refine o_iinc X0 hx (hb hby d_prog_28_method_5_code_34) (w := (7 : Int32)) rfl (by decide) (Ls' := #[.val (.ref a1), .val (.long (o_st (o_st (o_st (o_st (o_st (o_st (o_st (0 : Int64) (0 : Int32)) (0 : Int32)) (0 : Int32)) (0 : Int32)) (0 : Int32)) (0 : Int32)) (0 : Int32))), .second, .val (.int (7 : Int32))]) rfl (n := 37) rfl ?_
  refine o_goto X0 hx (hb hby d_prog_28_method_5_code_37) (by decide) (n := 4) (by decide) ?_
  refine o_iloadN X0 hx (hb hby d_prog_28_method_5_code_4) (v := (7 : Int32)) rfl (n := 5) rfl ?_
  refine o_bipush X0 hx (hb hby d_prog_28_method_5_code_5) (v := (8 : Int32)) rfl (n := 7) rfl ?_
  refine o_icmpN X0 hx (hb hby d_prog_28_method_5_code_7) (XT.ii_ge_f (by decide)) (n := 10) rfl ?_
  refine o_lloadN X0 hx (hb hby d_prog_28_method_5_code_10) (v := (o_st (o_st (o_st (o_st (o_st (o_st (o_st (0 : Int64) (0 : Int32)) (0 : Int32)) (0 : Int32)) (0 : Int32)) (0 : Int32)) (0 : Int32)) (0 : Int32))) rfl (n := 11) rfl ?_
  refine o_bipush X0 hx (hb hby d_prog_28_method_5_code_11) (v := (8 : Int32)) rfl (n := 13) rfl ?_
  refine o_lshl X0 hx (hb hby d_prog_28_method_5_code_13) (v := ((o_st (o_st (o_st (o_st (o_st (o_st (o_st (0 : Int64) (0 : Int32)) (0 : Int32)) (0 : Int32)) (0 : Int32)) (0 : Int32)) (0 : Int32)) (0 : Int32)) <<< (8 : Int64))) rfl (n := 14) rfl ?_
  refine o_iloadN X0 hx (hb hby d_prog_28_method_5_code_14) (v := (7 : Int32)) rfl (n := 15) rfl ?_
  refine o_aloadN X0 hx (hb hby d_prog_28_method_5_code_15) (v := (.ref a1)) rfl rfl (n := 16) rfl ?_
  refine o_arraylength X0 hx hZ e0 pV_a1 (hb hby d_prog_28_method_5_code_16) (n := 17) rfl ?_
  refine o_icmpY X0 hx (hb hby d_prog_28_method_5_code_17) (XT.ii_ge_t (by decide)) (by decide) (n := 30) (by decide) ?_
  refine o_iconst X0 hx (hb hby d_prog_28_method_5_code_30) (v := (0 : Int32)) rfl (n := 31) rfl ?_
  refine o_i2l X0 hx (hb hby d_prog_28_method_5_code_31) (v := (0 : Int64)) (by decide) (n := 32) rfl ?_
  refine o_lor X0 hx (hb hby d_prog_28_method_5_code_32) (v := (o_st (o_st (o_st (o_st (o_st (o_st (o_st (o_st (0 : Int64) (0 : Int32)) (0 : Int32)) (0 : Int32)) (0 : Int32)) (0 : Int32)) (0 : Int32)) (0 : Int32)) (0 : Int32))) rfl (n := 33) rfl ?_
  refine o_lstoreN X0 hx (hb hby d_prog_28_method_5_code_33) (Ls' := #[.val (.ref a1), .val (.long (o_st (o_st (o_st (o_st (o_st (o_st (o_st (o_st (0 : Int64) (0 : Int32)) (0 : Int32)) (0 : Int32)) (0 : Int32)) (0 : Int32)) (0 : Int32)) (0 : Int32)) (0 : Int32))), .second, .val (.int (7 : Int32))]) rfl (n := 34) rfl ?_
  refine o_iinc X0 hx (hb hby d_prog_28_method_5_code_34) (w := (8 : Int32)) rfl (by decide) (Ls' := #[.val (.ref a1), .val (.long (o_st (o_st (o_st (o_st (o_st (o_st (o_st (o_st (0 : Int64) (0 : Int32)) (0 : Int32)) (0 : Int32)) (0 : Int32)) (0 : Int32)) (0 : Int32)) (0 : Int32)) (0 : Int32))), .second, .val (.int (8 : Int32))]) rfl (n := 37) rfl ?_
  refine o_goto X0 hx (hb hby d_prog_28_method_5_code_37) (by decide) (n := 4) (by decide) ?_
  refine o_iloadN X0 hx (hb hby d_prog_28_method_5_code_4) (v := (8 : Int32)) rfl (n := 5) rfl ?_
  refine o_bipush X0 hx (hb hby d_prog_28_method_5_code_5) (v := (8 : Int32)) rfl (n := 7) rfl ?_
  refine o_icmpY X0 hx (hb hby d_prog_28_method_5_code_7) (XT.ii_ge_t (by decide)) (by decide) (n := 40) (by decide) ?_
  refine o_lloadN X0 hx (hb hby d_prog_28_method_5_code_40) (v := (o_st (o_st (o_st (o_st (o_st (o_st (o_st (o_st (0 : Int64) (0 : Int32)) (0 : Int32)) (0 : Int32)) (0 : Int32)) (0 : Int32)) (0 : Int32)) (0 : Int32)) (0 : Int32))) rfl (n := 41) rfl ?_
  exact o_lreturn X0 hx hret hlk (hb hby d_prog_28_method_5_code_41) (by decide) (by decide) e0 ⟨rfl, rfl, rfl⟩
theorem d_method_2_code_0 : decode method_2_code 0 = .ok (.iload_n 2, 1) := by decide +kernel
theorem d_method_2_code_1 : decode method_2_code 1 = .ok (.ifCond .ne 5, 3) := by decide +kernel
theorem d_method_2_code_4 : decode method_2_code 4 = .ok (.lconst 0, 1) := by decide +kernel
theorem d_method_2_code_5 : decode method_2_code 5 = .ok (.lreturn, 1) := by decide +kernel
theorem o_ef2 (m : MethodId) (p0 : Int64) : entryFrame m #[(.long p0), (.int (0 : Int32))] 3 = mkF m 0 #[.val (.long p0), .second, .val (.int (0 : Int32))] [] := by first | (simp [entryFrame, mkF, argsToLocals, Value.category]; done) | rfl
theorem o_pn1 : plainName "com/example/variform/variform/variant/Utf8HeadPinLaw" = true := by first | (simp [plainName, overriddenIn]; done) | decide +kernel
set_option maxRecDepth 65536 in
set_option maxHeartbeats 40000000 in
theorem c_exp_0 (l : Launch) (Z : State) (a0 : Array Value) (hw : ∀ d ∈ tables_1, d.before a0 Z = true) (p0 : Int64) (h0 : Heap) :
    Does l Z (⟨"com/example/variform/variform/variant/Utf8HeadPinLaw", "expected", "(JI)J"⟩ : MethodName) method_2_code 3 (some .long) [] ({ frames := 0, cells := 0, slots := 0, locals := 0 } : Room) #[(.long p0), (.int (0 : Int32))] h0 (Pur h0 (.long (0 : Int64))) := by
  refine Does.of (plainFor_of_name o_pn1) ?_
  intro p e s m below meth c T0 hx hby hml hown hnm hret hlk hZ X0 e0
  have hown : s.vm.findClass "com/example/variform/variform/variant/Utf8HeadPinLaw" = some m.cls := hown
  have hml : c.maxLocals = 3 := hml
  have hret : meth.sig.returnType = some .long := hret
  refine o_entry (o_ef2 m p0) ?_
  refine o_iloadN X0 hx (hb hby d_method_2_code_0) (v := (0 : Int32)) rfl (n := 1) rfl ?_
  refine o_ifN X0 hx (hb hby d_method_2_code_1) (XT.i0_ne_f (by decide)) (n := 4) rfl ?_
  refine o_lconst X0 hx (hb hby d_method_2_code_4) (v := (0 : Int64)) rfl (n := 5) rfl ?_
  exact o_lreturn X0 hx hret hlk (hb hby d_method_2_code_5) (by decide) (by decide) e0 ⟨rfl, rfl, rfl⟩
theorem d_prog_28_method_5_code_20 : decode prog_28_method_5_code 20 = .ok (.aload_n 0, 1) := by decide +kernel
theorem d_prog_28_method_5_code_21 : decode prog_28_method_5_code 21 = .ok (.iload_n 3, 1) := by decide +kernel
theorem d_prog_28_method_5_code_22 : decode prog_28_method_5_code 22 = .ok (.baload, 1) := by decide +kernel
theorem d_prog_28_method_5_code_23 : decode prog_28_method_5_code 23 = .ok (.sipush 255, 3) := by decide +kernel
theorem d_prog_28_method_5_code_26 : decode prog_28_method_5_code 26 = .ok (.iand, 1) := by decide +kernel
theorem d_prog_28_method_5_code_27 : decode prog_28_method_5_code 27 = .ok (.goto 4, 3) := by decide +kernel
theorem o_ef3 (m : MethodId) (a1 : Addr) : entryFrame m #[(.ref a1)] 4 = mkF m 0 #[.val (.ref a1), .unset, .unset, .unset] [] := by first | (simp [entryFrame, mkF, argsToLocals, Value.category]; done) | rfl
set_option maxRecDepth 65536 in
set_option maxHeartbeats 40000000 in
theorem c_head_1 (l : Launch) (Z : State) (a0 : Array Value) (hw : ∀ d ∈ tables_1, d.before a0 Z = true) (a1 : Addr) (k1 : ClassId) (w0 : Int32) (h0 : Heap) (pV_a1 : Arv Z h0 a1 k1 .byte (1 : Int32) [(.int w0)] (.int (0 : Int32))) :
    Does l Z (⟨"com/example/variform/variform/variant/Utf8", "head", "([B)J"⟩ : MethodName) prog_28_method_5_code 4 (some .long) [] ({ frames := 0, cells := 0, slots := 0, locals := 0 } : Room) #[(.ref a1)] h0 (Pur h0 (.long (o_st (o_st (o_st (o_st (o_st (o_st (o_st (o_st (0 : Int64) (w0 &&& (255 : Int32))) (0 : Int32)) (0 : Int32)) (0 : Int32)) (0 : Int32)) (0 : Int32)) (0 : Int32)) (0 : Int32)))) := by
  refine Does.of (plainFor_of_name o_pn0) ?_
  intro p e s m below meth c T0 hx hby hml hown hnm hret hlk hZ X0 e0
  have hown : s.vm.findClass "com/example/variform/variform/variant/Utf8" = some m.cls := hown
  have hml : c.maxLocals = 4 := hml
  have hret : meth.sig.returnType = some .long := hret
  refine o_entry (o_ef3 m a1) ?_
  refine o_lconst X0 hx (hb hby d_prog_28_method_5_code_0) (v := (0 : Int64)) rfl (n := 1) rfl ?_
  refine o_lstoreN X0 hx (hb hby d_prog_28_method_5_code_1) (Ls' := #[.val (.ref a1), .val (.long (0 : Int64)), .second, .unset]) rfl (n := 2) rfl ?_
  refine o_iconst X0 hx (hb hby d_prog_28_method_5_code_2) (v := (0 : Int32)) rfl (n := 3) rfl ?_
  refine o_istoreN X0 hx (hb hby d_prog_28_method_5_code_3) (Ls' := #[.val (.ref a1), .val (.long (0 : Int64)), .second, .val (.int (0 : Int32))]) rfl (n := 4) rfl ?_
  refine o_iloadN X0 hx (hb hby d_prog_28_method_5_code_4) (v := (0 : Int32)) rfl (n := 5) rfl ?_
  refine o_bipush X0 hx (hb hby d_prog_28_method_5_code_5) (v := (8 : Int32)) rfl (n := 7) rfl ?_
  refine o_icmpN X0 hx (hb hby d_prog_28_method_5_code_7) (XT.ii_ge_f (by decide)) (n := 10) rfl ?_
  refine o_lloadN X0 hx (hb hby d_prog_28_method_5_code_10) (v := (0 : Int64)) rfl (n := 11) rfl ?_
  refine o_bipush X0 hx (hb hby d_prog_28_method_5_code_11) (v := (8 : Int32)) rfl (n := 13) rfl ?_
  refine o_lshl X0 hx (hb hby d_prog_28_method_5_code_13) (v := ((0 : Int64) <<< (8 : Int64))) rfl (n := 14) rfl ?_
  refine o_iloadN X0 hx (hb hby d_prog_28_method_5_code_14) (v := (0 : Int32)) rfl (n := 15) rfl ?_
  refine o_aloadN X0 hx (hb hby d_prog_28_method_5_code_15) (v := (.ref a1)) rfl rfl (n := 16) rfl ?_
  refine o_arraylength X0 hx hZ e0 pV_a1 (hb hby d_prog_28_method_5_code_16) (n := 17) rfl ?_
  refine o_icmpN X0 hx (hb hby d_prog_28_method_5_code_17) (XT.ii_ge_f (by decide)) (n := 20) rfl ?_
  refine o_aloadN X0 hx (hb hby d_prog_28_method_5_code_20) (v := (.ref a1)) rfl rfl (n := 21) rfl ?_
  refine o_iloadN X0 hx (hb hby d_prog_28_method_5_code_21) (v := (0 : Int32)) rfl (n := 22) rfl ?_
  refine o_baload X0 hx hZ e0 pV_a1 (0) (by decide) (by decide) (v := (.int w0)) rfl (hb hby d_prog_28_method_5_code_22) (n := 23) rfl ?_
  refine o_sipush X0 hx (hb hby d_prog_28_method_5_code_23) (v := (255 : Int32)) rfl (n := 26) rfl ?_
  refine o_iand X0 hx (hb hby d_prog_28_method_5_code_26) (v := (w0 &&& (255 : Int32))) rfl (n := 27) rfl ?_
  refine o_goto X0 hx (hb hby d_prog_28_method_5_code_27) (by decide) (n := 31) (by decide) ?_
  refine o_i2l X0 hx (hb hby d_prog_28_method_5_code_31) (v := (w0 &&& (255 : Int32)).toInt64) rfl (n := 32) rfl ?_
  refine o_lor X0 hx (hb hby d_prog_28_method_5_code_32) (v := (o_st (0 : Int64) (w0 &&& (255 : Int32)))) rfl (n := 33) rfl ?_
  refine o_lstoreN X0 hx (hb hby d_prog_28_method_5_code_33) (Ls' := #[.val (.ref a1), .val (.long (o_st (0 : Int64) (w0 &&& (255 : Int32)))), .second, .val (.int (0 : Int32))]) rfl (n := 34) rfl ?_
  refine o_iinc X0 hx (hb hby d_prog_28_method_5_code_34) (w := (1 : Int32)) rfl (by decide) (Ls' := #[.val (.ref a1), .val (.long (o_st (0 : Int64) (w0 &&& (255 : Int32)))), .second, .val (.int (1 : Int32))]) rfl (n := 37) rfl ?_
  refine o_goto X0 hx (hb hby d_prog_28_method_5_code_37) (by decide) (n := 4) (by decide) ?_
  refine o_iloadN X0 hx (hb hby d_prog_28_method_5_code_4) (v := (1 : Int32)) rfl (n := 5) rfl ?_
  refine o_bipush X0 hx (hb hby d_prog_28_method_5_code_5) (v := (8 : Int32)) rfl (n := 7) rfl ?_
  refine o_icmpN X0 hx (hb hby d_prog_28_method_5_code_7) (XT.ii_ge_f (by decide)) (n := 10) rfl ?_
  refine o_lloadN X0 hx (hb hby d_prog_28_method_5_code_10) (v := (o_st (0 : Int64) (w0 &&& (255 : Int32)))) rfl (n := 11) rfl ?_
  refine o_bipush X0 hx (hb hby d_prog_28_method_5_code_11) (v := (8 : Int32)) rfl (n := 13) rfl ?_
  refine o_lshl X0 hx (hb hby d_prog_28_method_5_code_13) (v := ((o_st (0 : Int64) (w0 &&& (255 : Int32))) <<< (8 : Int64))) rfl (n := 14) rfl ?_
  refine o_iloadN X0 hx (hb hby d_prog_28_method_5_code_14) (v := (1 : Int32)) rfl (n := 15) rfl ?_
  refine o_aloadN X0 hx (hb hby d_prog_28_method_5_code_15) (v := (.ref a1)) rfl rfl (n := 16) rfl ?_
  refine o_arraylength X0 hx hZ e0 pV_a1 (hb hby d_prog_28_method_5_code_16) (n := 17) rfl ?_
  refine o_icmpY X0 hx (hb hby d_prog_28_method_5_code_17) (XT.ii_ge_t (by decide)) (by decide) (n := 30) (by decide) ?_
  refine o_iconst X0 hx (hb hby d_prog_28_method_5_code_30) (v := (0 : Int32)) rfl (n := 31) rfl ?_
  refine o_i2l X0 hx (hb hby d_prog_28_method_5_code_31) (v := (0 : Int64)) (by decide) (n := 32) rfl ?_
  refine o_lor X0 hx (hb hby d_prog_28_method_5_code_32) (v := (o_st (o_st (0 : Int64) (w0 &&& (255 : Int32))) (0 : Int32))) rfl (n := 33) rfl ?_
  refine o_lstoreN X0 hx (hb hby d_prog_28_method_5_code_33) (Ls' := #[.val (.ref a1), .val (.long (o_st (o_st (0 : Int64) (w0 &&& (255 : Int32))) (0 : Int32))), .second, .val (.int (1 : Int32))]) rfl (n := 34) rfl ?_
  refine o_iinc X0 hx (hb hby d_prog_28_method_5_code_34) (w := (2 : Int32)) rfl (by decide) (Ls' := #[.val (.ref a1), .val (.long (o_st (o_st (0 : Int64) (w0 &&& (255 : Int32))) (0 : Int32))), .second, .val (.int (2 : Int32))]) rfl (n := 37) rfl ?_
  refine o_goto X0 hx (hb hby d_prog_28_method_5_code_37) (by decide) (n := 4) (by decide) ?_
  refine o_iloadN X0 hx (hb hby d_prog_28_method_5_code_4) (v := (2 : Int32)) rfl (n := 5) rfl ?_
  refine o_bipush X0 hx (hb hby d_prog_28_method_5_code_5) (v := (8 : Int32)) rfl (n := 7) rfl ?_
  refine o_icmpN X0 hx (hb hby d_prog_28_method_5_code_7) (XT.ii_ge_f (by decide)) (n := 10) rfl ?_
  refine o_lloadN X0 hx (hb hby d_prog_28_method_5_code_10) (v := (o_st (o_st (0 : Int64) (w0 &&& (255 : Int32))) (0 : Int32))) rfl (n := 11) rfl ?_
  refine o_bipush X0 hx (hb hby d_prog_28_method_5_code_11) (v := (8 : Int32)) rfl (n := 13) rfl ?_
  refine o_lshl X0 hx (hb hby d_prog_28_method_5_code_13) (v := ((o_st (o_st (0 : Int64) (w0 &&& (255 : Int32))) (0 : Int32)) <<< (8 : Int64))) rfl (n := 14) rfl ?_
  refine o_iloadN X0 hx (hb hby d_prog_28_method_5_code_14) (v := (2 : Int32)) rfl (n := 15) rfl ?_
  refine o_aloadN X0 hx (hb hby d_prog_28_method_5_code_15) (v := (.ref a1)) rfl rfl (n := 16) rfl ?_
  refine o_arraylength X0 hx hZ e0 pV_a1 (hb hby d_prog_28_method_5_code_16) (n := 17) rfl ?_
  refine o_icmpY X0 hx (hb hby d_prog_28_method_5_code_17) (XT.ii_ge_t (by decide)) (by decide) (n := 30) (by decide) ?_
  refine o_iconst X0 hx (hb hby d_prog_28_method_5_code_30) (v := (0 : Int32)) rfl (n := 31) rfl ?_
  refine o_i2l X0 hx (hb hby d_prog_28_method_5_code_31) (v := (0 : Int64)) (by decide) (n := 32) rfl ?_
  refine o_lor X0 hx (hb hby d_prog_28_method_5_code_32) (v := (o_st (o_st (o_st (0 : Int64) (w0 &&& (255 : Int32))) (0 : Int32)) (0 : Int32))) rfl (n := 33) rfl ?_
  refine o_lstoreN X0 hx (hb hby d_prog_28_method_5_code_33) (Ls' := #[.val (.ref a1), .val (.long (o_st (o_st (o_st (0 : Int64) (w0 &&& (255 : Int32))) (0 : Int32)) (0 : Int32))), .second, .val (.int (2 : Int32))]) rfl (n := 34) rfl ?_
  refine o_iinc X0 hx (hb hby d_prog_28_method_5_code_34) (w := (3 : Int32)) rfl (by decide) (Ls' := #[.val (.ref a1), .val (.long (o_st (o_st (o_st (0 : Int64) (w0 &&& (255 : Int32))) (0 : Int32)) (0 : Int32))), .second, .val (.int (3 : Int32))]) rfl (n := 37) rfl ?_
  refine o_goto X0 hx (hb hby d_prog_28_method_5_code_37) (by decide) (n := 4) (by decide) ?_
  refine o_iloadN X0 hx (hb hby d_prog_28_method_5_code_4) (v := (3 : Int32)) rfl (n := 5) rfl ?_
  refine o_bipush X0 hx (hb hby d_prog_28_method_5_code_5) (v := (8 : Int32)) rfl (n := 7) rfl ?_
  refine o_icmpN X0 hx (hb hby d_prog_28_method_5_code_7) (XT.ii_ge_f (by decide)) (n := 10) rfl ?_
  refine o_lloadN X0 hx (hb hby d_prog_28_method_5_code_10) (v := (o_st (o_st (o_st (0 : Int64) (w0 &&& (255 : Int32))) (0 : Int32)) (0 : Int32))) rfl (n := 11) rfl ?_
  refine o_bipush X0 hx (hb hby d_prog_28_method_5_code_11) (v := (8 : Int32)) rfl (n := 13) rfl ?_
  refine o_lshl X0 hx (hb hby d_prog_28_method_5_code_13) (v := ((o_st (o_st (o_st (0 : Int64) (w0 &&& (255 : Int32))) (0 : Int32)) (0 : Int32)) <<< (8 : Int64))) rfl (n := 14) rfl ?_
  refine o_iloadN X0 hx (hb hby d_prog_28_method_5_code_14) (v := (3 : Int32)) rfl (n := 15) rfl ?_
  refine o_aloadN X0 hx (hb hby d_prog_28_method_5_code_15) (v := (.ref a1)) rfl rfl (n := 16) rfl ?_
  refine o_arraylength X0 hx hZ e0 pV_a1 (hb hby d_prog_28_method_5_code_16) (n := 17) rfl ?_
  refine o_icmpY X0 hx (hb hby d_prog_28_method_5_code_17) (XT.ii_ge_t (by decide)) (by decide) (n := 30) (by decide) ?_
  refine o_iconst X0 hx (hb hby d_prog_28_method_5_code_30) (v := (0 : Int32)) rfl (n := 31) rfl ?_
  refine o_i2l X0 hx (hb hby d_prog_28_method_5_code_31) (v := (0 : Int64)) (by decide) (n := 32) rfl ?_
  refine o_lor X0 hx (hb hby d_prog_28_method_5_code_32) (v := (o_st (o_st (o_st (o_st (0 : Int64) (w0 &&& (255 : Int32))) (0 : Int32)) (0 : Int32)) (0 : Int32))) rfl (n := 33) rfl ?_
  refine o_lstoreN X0 hx (hb hby d_prog_28_method_5_code_33) (Ls' := #[.val (.ref a1), .val (.long (o_st (o_st (o_st (o_st (0 : Int64) (w0 &&& (255 : Int32))) (0 : Int32)) (0 : Int32)) (0 : Int32))), .second, .val (.int (3 : Int32))]) rfl (n := 34) rfl ?_
  refine o_iinc X0 hx (hb hby d_prog_28_method_5_code_34) (w := (4 : Int32)) rfl (by decide) (Ls' := #[.val (.ref a1), .val (.long (o_st (o_st (o_st (o_st (0 : Int64) (w0 &&& (255 : Int32))) (0 : Int32)) (0 : Int32)) (0 : Int32))), .second, .val (.int (4 : Int32))]) rfl (n := 37) rfl ?_
  refine o_goto X0 hx (hb hby d_prog_28_method_5_code_37) (by decide) (n := 4) (by decide) ?_
  refine o_iloadN X0 hx (hb hby d_prog_28_method_5_code_4) (v := (4 : Int32)) rfl (n := 5) rfl ?_
  refine o_bipush X0 hx (hb hby d_prog_28_method_5_code_5) (v := (8 : Int32)) rfl (n := 7) rfl ?_
  refine o_icmpN X0 hx (hb hby d_prog_28_method_5_code_7) (XT.ii_ge_f (by decide)) (n := 10) rfl ?_
  refine o_lloadN X0 hx (hb hby d_prog_28_method_5_code_10) (v := (o_st (o_st (o_st (o_st (0 : Int64) (w0 &&& (255 : Int32))) (0 : Int32)) (0 : Int32)) (0 : Int32))) rfl (n := 11) rfl ?_
  refine o_bipush X0 hx (hb hby d_prog_28_method_5_code_11) (v := (8 : Int32)) rfl (n := 13) rfl ?_
  refine o_lshl X0 hx (hb hby d_prog_28_method_5_code_13) (v := ((o_st (o_st (o_st (o_st (0 : Int64) (w0 &&& (255 : Int32))) (0 : Int32)) (0 : Int32)) (0 : Int32)) <<< (8 : Int64))) rfl (n := 14) rfl ?_
  refine o_iloadN X0 hx (hb hby d_prog_28_method_5_code_14) (v := (4 : Int32)) rfl (n := 15) rfl ?_
  refine o_aloadN X0 hx (hb hby d_prog_28_method_5_code_15) (v := (.ref a1)) rfl rfl (n := 16) rfl ?_
  refine o_arraylength X0 hx hZ e0 pV_a1 (hb hby d_prog_28_method_5_code_16) (n := 17) rfl ?_
  refine o_icmpY X0 hx (hb hby d_prog_28_method_5_code_17) (XT.ii_ge_t (by decide)) (by decide) (n := 30) (by decide) ?_
  refine o_iconst X0 hx (hb hby d_prog_28_method_5_code_30) (v := (0 : Int32)) rfl (n := 31) rfl ?_
  refine o_i2l X0 hx (hb hby d_prog_28_method_5_code_31) (v := (0 : Int64)) (by decide) (n := 32) rfl ?_
  refine o_lor X0 hx (hb hby d_prog_28_method_5_code_32) (v := (o_st (o_st (o_st (o_st (o_st (0 : Int64) (w0 &&& (255 : Int32))) (0 : Int32)) (0 : Int32)) (0 : Int32)) (0 : Int32))) rfl (n := 33) rfl ?_
  refine o_lstoreN X0 hx (hb hby d_prog_28_method_5_code_33) (Ls' := #[.val (.ref a1), .val (.long (o_st (o_st (o_st (o_st (o_st (0 : Int64) (w0 &&& (255 : Int32))) (0 : Int32)) (0 : Int32)) (0 : Int32)) (0 : Int32))), .second, .val (.int (4 : Int32))]) rfl (n := 34) rfl ?_
  refine o_iinc X0 hx (hb hby d_prog_28_method_5_code_34) (w := (5 : Int32)) rfl (by decide) (Ls' := #[.val (.ref a1), .val (.long (o_st (o_st (o_st (o_st (o_st (0 : Int64) (w0 &&& (255 : Int32))) (0 : Int32)) (0 : Int32)) (0 : Int32)) (0 : Int32))), .second, .val (.int (5 : Int32))]) rfl (n := 37) rfl ?_
  refine o_goto X0 hx (hb hby d_prog_28_method_5_code_37) (by decide) (n := 4) (by decide) ?_
  refine o_iloadN X0 hx (hb hby d_prog_28_method_5_code_4) (v := (5 : Int32)) rfl (n := 5) rfl ?_
  refine o_bipush X0 hx (hb hby d_prog_28_method_5_code_5) (v := (8 : Int32)) rfl (n := 7) rfl ?_
  refine o_icmpN X0 hx (hb hby d_prog_28_method_5_code_7) (XT.ii_ge_f (by decide)) (n := 10) rfl ?_
  refine o_lloadN X0 hx (hb hby d_prog_28_method_5_code_10) (v := (o_st (o_st (o_st (o_st (o_st (0 : Int64) (w0 &&& (255 : Int32))) (0 : Int32)) (0 : Int32)) (0 : Int32)) (0 : Int32))) rfl (n := 11) rfl ?_
  refine o_bipush X0 hx (hb hby d_prog_28_method_5_code_11) (v := (8 : Int32)) rfl (n := 13) rfl ?_
  refine o_lshl X0 hx (hb hby d_prog_28_method_5_code_13) (v := ((o_st (o_st (o_st (o_st (o_st (0 : Int64) (w0 &&& (255 : Int32))) (0 : Int32)) (0 : Int32)) (0 : Int32)) (0 : Int32)) <<< (8 : Int64))) rfl (n := 14) rfl ?_
  refine o_iloadN X0 hx (hb hby d_prog_28_method_5_code_14) (v := (5 : Int32)) rfl (n := 15) rfl ?_
  refine o_aloadN X0 hx (hb hby d_prog_28_method_5_code_15) (v := (.ref a1)) rfl rfl (n := 16) rfl ?_
  refine o_arraylength X0 hx hZ e0 pV_a1 (hb hby d_prog_28_method_5_code_16) (n := 17) rfl ?_
  refine o_icmpY X0 hx (hb hby d_prog_28_method_5_code_17) (XT.ii_ge_t (by decide)) (by decide) (n := 30) (by decide) ?_
  refine o_iconst X0 hx (hb hby d_prog_28_method_5_code_30) (v := (0 : Int32)) rfl (n := 31) rfl ?_
  refine o_i2l X0 hx (hb hby d_prog_28_method_5_code_31) (v := (0 : Int64)) (by decide) (n := 32) rfl ?_
  refine o_lor X0 hx (hb hby d_prog_28_method_5_code_32) (v := (o_st (o_st (o_st (o_st (o_st (o_st (0 : Int64) (w0 &&& (255 : Int32))) (0 : Int32)) (0 : Int32)) (0 : Int32)) (0 : Int32)) (0 : Int32))) rfl (n := 33) rfl ?_
  refine o_lstoreN X0 hx (hb hby d_prog_28_method_5_code_33) (Ls' := #[.val (.ref a1), .val (.long (o_st (o_st (o_st (o_st (o_st (o_st (0 : Int64) (w0 &&& (255 : Int32))) (0 : Int32)) (0 : Int32)) (0 : Int32)) (0 : Int32)) (0 : Int32))), .second, .val (.int (5 : Int32))]) rfl (n := 34) rfl ?_
  refine o_iinc X0 hx (hb hby d_prog_28_method_5_code_34) (w := (6 : Int32)) rfl (by decide) (Ls' := #[.val (.ref a1), .val (.long (o_st (o_st (o_st (o_st (o_st (o_st (0 : Int64) (w0 &&& (255 : Int32))) (0 : Int32)) (0 : Int32)) (0 : Int32)) (0 : Int32)) (0 : Int32))), .second, .val (.int (6 : Int32))]) rfl (n := 37) rfl ?_
  refine o_goto X0 hx (hb hby d_prog_28_method_5_code_37) (by decide) (n := 4) (by decide) ?_
  refine o_iloadN X0 hx (hb hby d_prog_28_method_5_code_4) (v := (6 : Int32)) rfl (n := 5) rfl ?_
  refine o_bipush X0 hx (hb hby d_prog_28_method_5_code_5) (v := (8 : Int32)) rfl (n := 7) rfl ?_
  refine o_icmpN X0 hx (hb hby d_prog_28_method_5_code_7) (XT.ii_ge_f (by decide)) (n := 10) rfl ?_
  refine o_lloadN X0 hx (hb hby d_prog_28_method_5_code_10) (v := (o_st (o_st (o_st (o_st (o_st (o_st (0 : Int64) (w0 &&& (255 : Int32))) (0 : Int32)) (0 : Int32)) (0 : Int32)) (0 : Int32)) (0 : Int32))) rfl (n := 11) rfl ?_
  refine o_bipush X0 hx (hb hby d_prog_28_method_5_code_11) (v := (8 : Int32)) rfl (n := 13) rfl ?_
  refine o_lshl X0 hx (hb hby d_prog_28_method_5_code_13) (v := ((o_st (o_st (o_st (o_st (o_st (o_st (0 : Int64) (w0 &&& (255 : Int32))) (0 : Int32)) (0 : Int32)) (0 : Int32)) (0 : Int32)) (0 : Int32)) <<< (8 : Int64))) rfl (n := 14) rfl ?_
  refine o_iloadN X0 hx (hb hby d_prog_28_method_5_code_14) (v := (6 : Int32)) rfl (n := 15) rfl ?_
  refine o_aloadN X0 hx (hb hby d_prog_28_method_5_code_15) (v := (.ref a1)) rfl rfl (n := 16) rfl ?_
  refine o_arraylength X0 hx hZ e0 pV_a1 (hb hby d_prog_28_method_5_code_16) (n := 17) rfl ?_
  refine o_icmpY X0 hx (hb hby d_prog_28_method_5_code_17) (XT.ii_ge_t (by decide)) (by decide) (n := 30) (by decide) ?_
  refine o_iconst X0 hx (hb hby d_prog_28_method_5_code_30) (v := (0 : Int32)) rfl (n := 31) rfl ?_
  refine o_i2l X0 hx (hb hby d_prog_28_method_5_code_31) (v := (0 : Int64)) (by decide) (n := 32) rfl ?_
  refine o_lor X0 hx (hb hby d_prog_28_method_5_code_32) (v := (o_st (o_st (o_st (o_st (o_st (o_st (o_st (0 : Int64) (w0 &&& (255 : Int32))) (0 : Int32)) (0 : Int32)) (0 : Int32)) (0 : Int32)) (0 : Int32)) (0 : Int32))) rfl (n := 33) rfl ?_
  refine o_lstoreN X0 hx (hb hby d_prog_28_method_5_code_33) (Ls' := #[.val (.ref a1), .val (.long (o_st (o_st (o_st (o_st (o_st (o_st (o_st (0 : Int64) (w0 &&& (255 : Int32))) (0 : Int32)) (0 : Int32)) (0 : Int32)) (0 : Int32)) (0 : Int32)) (0 : Int32))), .second, .val (.int (6 : Int32))]) rfl (n := 34) rfl ?_
  refine o_iinc X0 hx (hb hby d_prog_28_method_5_code_34) (w := (7 : Int32)) rfl (by decide) (Ls' := #[.val (.ref a1), .val (.long (o_st (o_st (o_st (o_st (o_st (o_st (o_st (0 : Int64) (w0 &&& (255 : Int32))) (0 : Int32)) (0 : Int32)) (0 : Int32)) (0 : Int32)) (0 : Int32)) (0 : Int32))), .second, .val (.int (7 : Int32))]) rfl (n := 37) rfl ?_
  refine o_goto X0 hx (hb hby d_prog_28_method_5_code_37) (by decide) (n := 4) (by decide) ?_
  refine o_iloadN X0 hx (hb hby d_prog_28_method_5_code_4) (v := (7 : Int32)) rfl (n := 5) rfl ?_
  refine o_bipush X0 hx (hb hby d_prog_28_method_5_code_5) (v := (8 : Int32)) rfl (n := 7) rfl ?_
  refine o_icmpN X0 hx (hb hby d_prog_28_method_5_code_7) (XT.ii_ge_f (by decide)) (n := 10) rfl ?_
  refine o_lloadN X0 hx (hb hby d_prog_28_method_5_code_10) (v := (o_st (o_st (o_st (o_st (o_st (o_st (o_st (0 : Int64) (w0 &&& (255 : Int32))) (0 : Int32)) (0 : Int32)) (0 : Int32)) (0 : Int32)) (0 : Int32)) (0 : Int32))) rfl (n := 11) rfl ?_
  refine o_bipush X0 hx (hb hby d_prog_28_method_5_code_11) (v := (8 : Int32)) rfl (n := 13) rfl ?_
  refine o_lshl X0 hx (hb hby d_prog_28_method_5_code_13) (v := ((o_st (o_st (o_st (o_st (o_st (o_st (o_st (0 : Int64) (w0 &&& (255 : Int32))) (0 : Int32)) (0 : Int32)) (0 : Int32)) (0 : Int32)) (0 : Int32)) (0 : Int32)) <<< (8 : Int64))) rfl (n := 14) rfl ?_
  refine o_iloadN X0 hx (hb hby d_prog_28_method_5_code_14) (v := (7 : Int32)) rfl (n := 15) rfl ?_
  refine o_aloadN X0 hx (hb hby d_prog_28_method_5_code_15) (v := (.ref a1)) rfl rfl (n := 16) rfl ?_
  refine o_arraylength X0 hx hZ e0 pV_a1 (hb hby d_prog_28_method_5_code_16) (n := 17) rfl ?_
  refine o_icmpY X0 hx (hb hby d_prog_28_method_5_code_17) (XT.ii_ge_t (by decide)) (by decide) (n := 30) (by decide) ?_
  refine o_iconst X0 hx (hb hby d_prog_28_method_5_code_30) (v := (0 : Int32)) rfl (n := 31) rfl ?_
  refine o_i2l X0 hx (hb hby d_prog_28_method_5_code_31) (v := (0 : Int64)) (by decide) (n := 32) rfl ?_
  refine o_lor X0 hx (hb hby d_prog_28_method_5_code_32) (v := (o_st (o_st (o_st (o_st (o_st (o_st (o_st (o_st (0 : Int64) (w0 &&& (255 : Int32))) (0 : Int32)) (0 : Int32)) (0 : Int32)) (0 : Int32)) (0 : Int32)) (0 : Int32)) (0 : Int32))) rfl (n := 33) rfl ?_
  refine o_lstoreN X0 hx (hb hby d_prog_28_method_5_code_33) (Ls' := #[.val (.ref a1), .val (.long (o_st (o_st (o_st (o_st (o_st (o_st (o_st (o_st (0 : Int64) (w0 &&& (255 : Int32))) (0 : Int32)) (0 : Int32)) (0 : Int32)) (0 : Int32)) (0 : Int32)) (0 : Int32)) (0 : Int32))), .second, .val (.int (7 : Int32))]) rfl (n := 34) rfl ?_
  refine o_iinc X0 hx (hb hby d_prog_28_method_5_code_34) (w := (8 : Int32)) rfl (by decide) (Ls' := #[.val (.ref a1), .val (.long (o_st (o_st (o_st (o_st (o_st (o_st (o_st (o_st (0 : Int64) (w0 &&& (255 : Int32))) (0 : Int32)) (0 : Int32)) (0 : Int32)) (0 : Int32)) (0 : Int32)) (0 : Int32)) (0 : Int32))), .second, .val (.int (8 : Int32))]) rfl (n := 37) rfl ?_
  refine o_goto X0 hx (hb hby d_prog_28_method_5_code_37) (by decide) (n := 4) (by decide) ?_
  refine o_iloadN X0 hx (hb hby d_prog_28_method_5_code_4) (v := (8 : Int32)) rfl (n := 5) rfl ?_
  refine o_bipush X0 hx (hb hby d_prog_28_method_5_code_5) (v := (8 : Int32)) rfl (n := 7) rfl ?_
  refine o_icmpY X0 hx (hb hby d_prog_28_method_5_code_7) (XT.ii_ge_t (by decide)) (by decide) (n := 40) (by decide) ?_
  refine o_lloadN X0 hx (hb hby d_prog_28_method_5_code_40) (v := (o_st (o_st (o_st (o_st (o_st (o_st (o_st (o_st (0 : Int64) (w0 &&& (255 : Int32))) (0 : Int32)) (0 : Int32)) (0 : Int32)) (0 : Int32)) (0 : Int32)) (0 : Int32)) (0 : Int32))) rfl (n := 41) rfl ?_
  exact o_lreturn X0 hx hret hlk (hb hby d_prog_28_method_5_code_41) (by decide) (by decide) e0 ⟨rfl, rfl, rfl⟩
theorem d_method_2_code_6 : decode method_2_code 6 = .ok (.iload_n 2, 1) := by decide +kernel
theorem d_method_2_code_7 : decode method_2_code 7 = .ok (.bipush 8, 2) := by decide +kernel
theorem d_method_2_code_9 : decode method_2_code 9 = .ok (.if_icmp .lt 5, 3) := by decide +kernel
theorem d_method_2_code_14 : decode method_2_code 14 = .ok (.lload_n 0, 1) := by decide +kernel
theorem d_method_2_code_15 : decode method_2_code 15 = .ok (.ldc2_w 7, 3) := by decide +kernel
theorem d_method_2_code_18 : decode method_2_code 18 = .ok (.bipush 8, 2) := by decide +kernel
theorem d_method_2_code_20 : decode method_2_code 20 = .ok (.bipush 8, 2) := by decide +kernel
theorem d_method_2_code_22 : decode method_2_code 22 = .ok (.iload_n 2, 1) := by decide +kernel
theorem d_method_2_code_23 : decode method_2_code 23 = .ok (.isub, 1) := by decide +kernel
theorem d_method_2_code_24 : decode method_2_code 24 = .ok (.imul, 1) := by decide +kernel
theorem d_method_2_code_25 : decode method_2_code 25 = .ok (.lshl, 1) := by decide +kernel
theorem d_method_2_code_26 : decode method_2_code 26 = .ok (.land, 1) := by decide +kernel
theorem d_method_2_code_27 : decode method_2_code 27 = .ok (.lreturn, 1) := by decide +kernel
theorem o_ef4 (m : MethodId) (p0 : Int64) : entryFrame m #[(.long p0), (.int (1 : Int32))] 3 = mkF m 0 #[.val (.long p0), .second, .val (.int (1 : Int32))] [] := by first | (simp [entryFrame, mkF, argsToLocals, Value.category]; done) | rfl
set_option maxRecDepth 65536 in
set_option maxHeartbeats 40000000 in
theorem c_exp_1 (l : Launch) (Z : State) (a0 : Array Value) (hw : ∀ d ∈ tables_1, d.before a0 Z = true) (p0 : Int64) (h0 : Heap) :
    Does l Z (⟨"com/example/variform/variform/variant/Utf8HeadPinLaw", "expected", "(JI)J"⟩ : MethodName) method_2_code 3 (some .long) [] ({ frames := 0, cells := 0, slots := 0, locals := 0 } : Room) #[(.long p0), (.int (1 : Int32))] h0 (Pur h0 (.long (p0 &&& (-72057594037927936 : Int64)))) := by
  refine Does.of (plainFor_of_name o_pn1) ?_
  intro p e s m below meth c T0 hx hby hml hown hnm hret hlk hZ X0 e0
  have hown : s.vm.findClass "com/example/variform/variform/variant/Utf8HeadPinLaw" = some m.cls := hown
  have hml : c.maxLocals = 3 := hml
  have hret : meth.sig.returnType = some .long := hret
  refine o_entry (o_ef4 m p0) ?_
  refine o_iloadN X0 hx (hb hby d_method_2_code_0) (v := (1 : Int32)) rfl (n := 1) rfl ?_
  refine o_ifY X0 hx (hb hby d_method_2_code_1) (XT.i0_ne_t (by decide)) (by decide) (n := 6) (by decide) ?_
  refine o_iloadN X0 hx (hb hby d_method_2_code_6) (v := (1 : Int32)) rfl (n := 7) rfl ?_
  refine o_bipush X0 hx (hb hby d_method_2_code_7) (v := (8 : Int32)) rfl (n := 9) rfl ?_
  refine o_icmpY X0 hx (hb hby d_method_2_code_9) (XT.ii_lt_t (by decide)) (by decide) (n := 14) (by decide) ?_
  refine o_lloadN X0 hx (hb hby d_method_2_code_14) (v := p0) rfl (n := 15) rfl ?_
  refine o_ldc2_w X0 hx hZ (v := (-1 : Int64)) hown (hw _ (List.mem_of_getElem? (i := 10) rfl)) (hb hby d_method_2_code_15) (n := 18) rfl ?_
  refine o_bipush X0 hx (hb hby d_method_2_code_18) (v := (8 : Int32)) rfl (n := 20) rfl ?_
  refine o_bipush X0 hx (hb hby d_method_2_code_20) (v := (8 : Int32)) rfl (n := 22) rfl ?_
  refine o_iloadN X0 hx (hb hby d_method_2_code_22) (v := (1 : Int32)) rfl (n := 23) rfl ?_
  refine o_isub X0 hx (hb hby d_method_2_code_23) (v := (7 : Int32)) (by decide) (n := 24) rfl ?_
  refine o_imul X0 hx (hb hby d_method_2_code_24) (v := (56 : Int32)) (by decide) (n := 25) rfl ?_
  refine o_lshl X0 hx (hb hby d_method_2_code_25) (v := (-72057594037927936 : Int64)) (by decide) (n := 26) rfl ?_
  refine o_land X0 hx (hb hby d_method_2_code_26) (v := (p0 &&& (-72057594037927936 : Int64))) rfl (n := 27) rfl ?_
  exact o_lreturn X0 hx hret hlk (hb hby d_method_2_code_27) (by decide) (by decide) e0 ⟨rfl, rfl, rfl⟩
theorem o_ef5 (m : MethodId) (a1 : Addr) : entryFrame m #[(.ref a1)] 4 = mkF m 0 #[.val (.ref a1), .unset, .unset, .unset] [] := by first | (simp [entryFrame, mkF, argsToLocals, Value.category]; done) | rfl
set_option maxRecDepth 65536 in
set_option maxHeartbeats 40000000 in
theorem c_head_2 (l : Launch) (Z : State) (a0 : Array Value) (hw : ∀ d ∈ tables_1, d.before a0 Z = true) (a1 : Addr) (k1 : ClassId) (w0 : Int32) (w1 : Int32) (h0 : Heap) (pV_a1 : Arv Z h0 a1 k1 .byte (2 : Int32) [(.int w0), (.int w1)] (.int (0 : Int32))) :
    Does l Z (⟨"com/example/variform/variform/variant/Utf8", "head", "([B)J"⟩ : MethodName) prog_28_method_5_code 4 (some .long) [] ({ frames := 0, cells := 0, slots := 0, locals := 0 } : Room) #[(.ref a1)] h0 (Pur h0 (.long (o_st (o_st (o_st (o_st (o_st (o_st (o_st (o_st (0 : Int64) (w0 &&& (255 : Int32))) (w1 &&& (255 : Int32))) (0 : Int32)) (0 : Int32)) (0 : Int32)) (0 : Int32)) (0 : Int32)) (0 : Int32)))) := by
  refine Does.of (plainFor_of_name o_pn0) ?_
  intro p e s m below meth c T0 hx hby hml hown hnm hret hlk hZ X0 e0
  have hown : s.vm.findClass "com/example/variform/variform/variant/Utf8" = some m.cls := hown
  have hml : c.maxLocals = 4 := hml
  have hret : meth.sig.returnType = some .long := hret
  refine o_entry (o_ef5 m a1) ?_
  refine o_lconst X0 hx (hb hby d_prog_28_method_5_code_0) (v := (0 : Int64)) rfl (n := 1) rfl ?_
  refine o_lstoreN X0 hx (hb hby d_prog_28_method_5_code_1) (Ls' := #[.val (.ref a1), .val (.long (0 : Int64)), .second, .unset]) rfl (n := 2) rfl ?_
  refine o_iconst X0 hx (hb hby d_prog_28_method_5_code_2) (v := (0 : Int32)) rfl (n := 3) rfl ?_
  refine o_istoreN X0 hx (hb hby d_prog_28_method_5_code_3) (Ls' := #[.val (.ref a1), .val (.long (0 : Int64)), .second, .val (.int (0 : Int32))]) rfl (n := 4) rfl ?_
  refine o_iloadN X0 hx (hb hby d_prog_28_method_5_code_4) (v := (0 : Int32)) rfl (n := 5) rfl ?_
  refine o_bipush X0 hx (hb hby d_prog_28_method_5_code_5) (v := (8 : Int32)) rfl (n := 7) rfl ?_
  refine o_icmpN X0 hx (hb hby d_prog_28_method_5_code_7) (XT.ii_ge_f (by decide)) (n := 10) rfl ?_
  refine o_lloadN X0 hx (hb hby d_prog_28_method_5_code_10) (v := (0 : Int64)) rfl (n := 11) rfl ?_
  refine o_bipush X0 hx (hb hby d_prog_28_method_5_code_11) (v := (8 : Int32)) rfl (n := 13) rfl ?_
  refine o_lshl X0 hx (hb hby d_prog_28_method_5_code_13) (v := ((0 : Int64) <<< (8 : Int64))) rfl (n := 14) rfl ?_
  refine o_iloadN X0 hx (hb hby d_prog_28_method_5_code_14) (v := (0 : Int32)) rfl (n := 15) rfl ?_
  refine o_aloadN X0 hx (hb hby d_prog_28_method_5_code_15) (v := (.ref a1)) rfl rfl (n := 16) rfl ?_
  refine o_arraylength X0 hx hZ e0 pV_a1 (hb hby d_prog_28_method_5_code_16) (n := 17) rfl ?_
  refine o_icmpN X0 hx (hb hby d_prog_28_method_5_code_17) (XT.ii_ge_f (by decide)) (n := 20) rfl ?_
  refine o_aloadN X0 hx (hb hby d_prog_28_method_5_code_20) (v := (.ref a1)) rfl rfl (n := 21) rfl ?_
  refine o_iloadN X0 hx (hb hby d_prog_28_method_5_code_21) (v := (0 : Int32)) rfl (n := 22) rfl ?_
  refine o_baload X0 hx hZ e0 pV_a1 (0) (by decide) (by decide) (v := (.int w0)) rfl (hb hby d_prog_28_method_5_code_22) (n := 23) rfl ?_
  refine o_sipush X0 hx (hb hby d_prog_28_method_5_code_23) (v := (255 : Int32)) rfl (n := 26) rfl ?_
  refine o_iand X0 hx (hb hby d_prog_28_method_5_code_26) (v := (w0 &&& (255 : Int32))) rfl (n := 27) rfl ?_
  refine o_goto X0 hx (hb hby d_prog_28_method_5_code_27) (by decide) (n := 31) (by decide) ?_
  refine o_i2l X0 hx (hb hby d_prog_28_method_5_code_31) (v := (w0 &&& (255 : Int32)).toInt64) rfl (n := 32) rfl ?_
  refine o_lor X0 hx (hb hby d_prog_28_method_5_code_32) (v := (o_st (0 : Int64) (w0 &&& (255 : Int32)))) rfl (n := 33) rfl ?_
  refine o_lstoreN X0 hx (hb hby d_prog_28_method_5_code_33) (Ls' := #[.val (.ref a1), .val (.long (o_st (0 : Int64) (w0 &&& (255 : Int32)))), .second, .val (.int (0 : Int32))]) rfl (n := 34) rfl ?_
  refine o_iinc X0 hx (hb hby d_prog_28_method_5_code_34) (w := (1 : Int32)) rfl (by decide) (Ls' := #[.val (.ref a1), .val (.long (o_st (0 : Int64) (w0 &&& (255 : Int32)))), .second, .val (.int (1 : Int32))]) rfl (n := 37) rfl ?_
  refine o_goto X0 hx (hb hby d_prog_28_method_5_code_37) (by decide) (n := 4) (by decide) ?_
  refine o_iloadN X0 hx (hb hby d_prog_28_method_5_code_4) (v := (1 : Int32)) rfl (n := 5) rfl ?_
  refine o_bipush X0 hx (hb hby d_prog_28_method_5_code_5) (v := (8 : Int32)) rfl (n := 7) rfl ?_
  refine o_icmpN X0 hx (hb hby d_prog_28_method_5_code_7) (XT.ii_ge_f (by decide)) (n := 10) rfl ?_
  refine o_lloadN X0 hx (hb hby d_prog_28_method_5_code_10) (v := (o_st (0 : Int64) (w0 &&& (255 : Int32)))) rfl (n := 11) rfl ?_
  refine o_bipush X0 hx (hb hby d_prog_28_method_5_code_11) (v := (8 : Int32)) rfl (n := 13) rfl ?_
  refine o_lshl X0 hx (hb hby d_prog_28_method_5_code_13) (v := ((o_st (0 : Int64) (w0 &&& (255 : Int32))) <<< (8 : Int64))) rfl (n := 14) rfl ?_
  refine o_iloadN X0 hx (hb hby d_prog_28_method_5_code_14) (v := (1 : Int32)) rfl (n := 15) rfl ?_
  refine o_aloadN X0 hx (hb hby d_prog_28_method_5_code_15) (v := (.ref a1)) rfl rfl (n := 16) rfl ?_
  refine o_arraylength X0 hx hZ e0 pV_a1 (hb hby d_prog_28_method_5_code_16) (n := 17) rfl ?_
  refine o_icmpN X0 hx (hb hby d_prog_28_method_5_code_17) (XT.ii_ge_f (by decide)) (n := 20) rfl ?_
  refine o_aloadN X0 hx (hb hby d_prog_28_method_5_code_20) (v := (.ref a1)) rfl rfl (n := 21) rfl ?_
  refine o_iloadN X0 hx (hb hby d_prog_28_method_5_code_21) (v := (1 : Int32)) rfl (n := 22) rfl ?_
  refine o_baload X0 hx hZ e0 pV_a1 (1) (by decide) (by decide) (v := (.int w1)) rfl (hb hby d_prog_28_method_5_code_22) (n := 23) rfl ?_
  refine o_sipush X0 hx (hb hby d_prog_28_method_5_code_23) (v := (255 : Int32)) rfl (n := 26) rfl ?_
  refine o_iand X0 hx (hb hby d_prog_28_method_5_code_26) (v := (w1 &&& (255 : Int32))) rfl (n := 27) rfl ?_
  refine o_goto X0 hx (hb hby d_prog_28_method_5_code_27) (by decide) (n := 31) (by decide) ?_
  refine o_i2l X0 hx (hb hby d_prog_28_method_5_code_31) (v := (w1 &&& (255 : Int32)).toInt64) rfl (n := 32) rfl ?_
  refine o_lor X0 hx (hb hby d_prog_28_method_5_code_32) (v := (o_st (o_st (0 : Int64) (w0 &&& (255 : Int32))) (w1 &&& (255 : Int32)))) rfl (n := 33) rfl ?_
  refine o_lstoreN X0 hx (hb hby d_prog_28_method_5_code_33) (Ls' := #[.val (.ref a1), .val (.long (o_st (o_st (0 : Int64) (w0 &&& (255 : Int32))) (w1 &&& (255 : Int32)))), .second, .val (.int (1 : Int32))]) rfl (n := 34) rfl ?_
  refine o_iinc X0 hx (hb hby d_prog_28_method_5_code_34) (w := (2 : Int32)) rfl (by decide) (Ls' := #[.val (.ref a1), .val (.long (o_st (o_st (0 : Int64) (w0 &&& (255 : Int32))) (w1 &&& (255 : Int32)))), .second, .val (.int (2 : Int32))]) rfl (n := 37) rfl ?_
  refine o_goto X0 hx (hb hby d_prog_28_method_5_code_37) (by decide) (n := 4) (by decide) ?_
  refine o_iloadN X0 hx (hb hby d_prog_28_method_5_code_4) (v := (2 : Int32)) rfl (n := 5) rfl ?_
  refine o_bipush X0 hx (hb hby d_prog_28_method_5_code_5) (v := (8 : Int32)) rfl (n := 7) rfl ?_
  refine o_icmpN X0 hx (hb hby d_prog_28_method_5_code_7) (XT.ii_ge_f (by decide)) (n := 10) rfl ?_
  refine o_lloadN X0 hx (hb hby d_prog_28_method_5_code_10) (v := (o_st (o_st (0 : Int64) (w0 &&& (255 : Int32))) (w1 &&& (255 : Int32)))) rfl (n := 11) rfl ?_
  refine o_bipush X0 hx (hb hby d_prog_28_method_5_code_11) (v := (8 : Int32)) rfl (n := 13) rfl ?_
  refine o_lshl X0 hx (hb hby d_prog_28_method_5_code_13) (v := ((o_st (o_st (0 : Int64) (w0 &&& (255 : Int32))) (w1 &&& (255 : Int32))) <<< (8 : Int64))) rfl (n := 14) rfl ?_
  refine o_iloadN X0 hx (hb hby d_prog_28_method_5_code_14) (v := (2 : Int32)) rfl (n := 15) rfl ?_
  refine o_aloadN X0 hx (hb hby d_prog_28_method_5_code_15) (v := (.ref a1)) rfl rfl (n := 16) rfl ?_
  refine o_arraylength X0 hx hZ e0 pV_a1 (hb hby d_prog_28_method_5_code_16) (n := 17) rfl ?_
  refine o_icmpY X0 hx (hb hby d_prog_28_method_5_code_17) (XT.ii_ge_t (by decide)) (by decide) (n := 30) (by decide) ?_
  refine o_iconst X0 hx (hb hby d_prog_28_method_5_code_30) (v := (0 : Int32)) rfl (n := 31) rfl ?_
  refine o_i2l X0 hx (hb hby d_prog_28_method_5_code_31) (v := (0 : Int64)) (by decide) (n := 32) rfl ?_
  refine o_lor X0 hx (hb hby d_prog_28_method_5_code_32) (v := (o_st (o_st (o_st (0 : Int64) (w0 &&& (255 : Int32))) (w1 &&& (255 : Int32))) (0 : Int32))) rfl (n := 33) rfl ?_
  refine o_lstoreN X0 hx (hb hby d_prog_28_method_5_code_33) (Ls' := #[.val (.ref a1), .val (.long (o_st (o_st (o_st (0 : Int64) (w0 &&& (255 : Int32))) (w1 &&& (255 : Int32))) (0 : Int32))), .second, .val (.int (2 : Int32))]) rfl (n := 34) rfl ?_
  refine o_iinc X0 hx (hb hby d_prog_28_method_5_code_34) (w := (3 : Int32)) rfl (by decide) (Ls' := #[.val (.ref a1), .val (.long (o_st (o_st (o_st (0 : Int64) (w0 &&& (255 : Int32))) (w1 &&& (255 : Int32))) (0 : Int32))), .second, .val (.int (3 : Int32))]) rfl (n := 37) rfl ?_
  refine o_goto X0 hx (hb hby d_prog_28_method_5_code_37) (by decide) (n := 4) (by decide) ?_
  refine o_iloadN X0 hx (hb hby d_prog_28_method_5_code_4) (v := (3 : Int32)) rfl (n := 5) rfl ?_
  refine o_bipush X0 hx (hb hby d_prog_28_method_5_code_5) (v := (8 : Int32)) rfl (n := 7) rfl ?_
  refine o_icmpN X0 hx (hb hby d_prog_28_method_5_code_7) (XT.ii_ge_f (by decide)) (n := 10) rfl ?_
  refine o_lloadN X0 hx (hb hby d_prog_28_method_5_code_10) (v := (o_st (o_st (o_st (0 : Int64) (w0 &&& (255 : Int32))) (w1 &&& (255 : Int32))) (0 : Int32))) rfl (n := 11) rfl ?_
  refine o_bipush X0 hx (hb hby d_prog_28_method_5_code_11) (v := (8 : Int32)) rfl (n := 13) rfl ?_
  refine o_lshl X0 hx (hb hby d_prog_28_method_5_code_13) (v := ((o_st (o_st (o_st (0 : Int64) (w0 &&& (255 : Int32))) (w1 &&& (255 : Int32))) (0 : Int32)) <<< (8 : Int64))) rfl (n := 14) rfl ?_
  refine o_iloadN X0 hx (hb hby d_prog_28_method_5_code_14) (v := (3 : Int32)) rfl (n := 15) rfl ?_
  refine o_aloadN X0 hx (hb hby d_prog_28_method_5_code_15) (v := (.ref a1)) rfl rfl (n := 16) rfl ?_
  refine o_arraylength X0 hx hZ e0 pV_a1 (hb hby d_prog_28_method_5_code_16) (n := 17) rfl ?_
  refine o_icmpY X0 hx (hb hby d_prog_28_method_5_code_17) (XT.ii_ge_t (by decide)) (by decide) (n := 30) (by decide) ?_
  refine o_iconst X0 hx (hb hby d_prog_28_method_5_code_30) (v := (0 : Int32)) rfl (n := 31) rfl ?_
  refine o_i2l X0 hx (hb hby d_prog_28_method_5_code_31) (v := (0 : Int64)) (by decide) (n := 32) rfl ?_
  refine o_lor X0 hx (hb hby d_prog_28_method_5_code_32) (v := (o_st (o_st (o_st (o_st (0 : Int64) (w0 &&& (255 : Int32))) (w1 &&& (255 : Int32))) (0 : Int32)) (0 : Int32))) rfl (n := 33) rfl ?_
  refine o_lstoreN X0 hx (hb hby d_prog_28_method_5_code_33) (Ls' := #[.val (.ref a1), .val (.long (o_st (o_st (o_st (o_st (0 : Int64) (w0 &&& (255 : Int32))) (w1 &&& (255 : Int32))) (0 : Int32)) (0 : Int32))), .second, .val (.int (3 : Int32))]) rfl (n := 34) rfl ?_
  refine o_iinc X0 hx (hb hby d_prog_28_method_5_code_34) (w := (4 : Int32)) rfl (by decide) (Ls' := #[.val (.ref a1), .val (.long (o_st (o_st (o_st (o_st (0 : Int64) (w0 &&& (255 : Int32))) (w1 &&& (255 : Int32))) (0 : Int32)) (0 : Int32))), .second, .val (.int (4 : Int32))]) rfl (n := 37) rfl ?_
  refine o_goto X0 hx (hb hby d_prog_28_method_5_code_37) (by decide) (n := 4) (by decide) ?_
  refine o_iloadN X0 hx (hb hby d_prog_28_method_5_code_4) (v := (4 : Int32)) rfl (n := 5) rfl ?_
  refine o_bipush X0 hx (hb hby d_prog_28_method_5_code_5) (v := (8 : Int32)) rfl (n := 7) rfl ?_
  refine o_icmpN X0 hx (hb hby d_prog_28_method_5_code_7) (XT.ii_ge_f (by decide)) (n := 10) rfl ?_
  refine o_lloadN X0 hx (hb hby d_prog_28_method_5_code_10) (v := (o_st (o_st (o_st (o_st (0 : Int64) (w0 &&& (255 : Int32))) (w1 &&& (255 : Int32))) (0 : Int32)) (0 : Int32))) rfl (n := 11) rfl ?_
  refine o_bipush X0 hx (hb hby d_prog_28_method_5_code_11) (v := (8 : Int32)) rfl (n := 13) rfl ?_
  refine o_lshl X0 hx (hb hby d_prog_28_method_5_code_13) (v := ((o_st (o_st (o_st (o_st (0 : Int64) (w0 &&& (255 : Int32))) (w1 &&& (255 : Int32))) (0 : Int32)) (0 : Int32)) <<< (8 : Int64))) rfl (n := 14) rfl ?_
  refine o_iloadN X0 hx (hb hby d_prog_28_method_5_code_14) (v := (4 : Int32)) rfl (n := 15) rfl ?_
  refine o_aloadN X0 hx (hb hby d_prog_28_method_5_code_15) (v := (.ref a1)) rfl rfl (n := 16) rfl ?_
  refine o_arraylength X0 hx hZ e0 pV_a1 (hb hby d_prog_28_method_5_code_16) (n := 17) rfl ?_
  refine o_icmpY X0 hx (hb hby d_prog_28_method_5_code_17) (XT.ii_ge_t (by decide)) (by decide) (n := 30) (by decide) ?_
  refine o_iconst X0 hx (hb hby d_prog_28_method_5_code_30) (v := (0 : Int32)) rfl (n := 31) rfl ?_
  refine o_i2l X0 hx (hb hby d_prog_28_method_5_code_31) (v := (0 : Int64)) (by decide) (n := 32) rfl ?_
  refine o_lor X0 hx (hb hby d_prog_28_method_5_code_32) (v := (o_st (o_st (o_st (o_st (o_st (0 : Int64) (w0 &&& (255 : Int32))) (w1 &&& (255 : Int32))) (0 : Int32)) (0 : Int32)) (0 : Int32))) rfl (n := 33) rfl ?_
  refine o_lstoreN X0 hx (hb hby d_prog_28_method_5_code_33) (Ls' := #[.val (.ref a1), .val (.long (o_st (o_st (o_st (o_st (o_st (0 : Int64) (w0 &&& (255 : Int32))) (w1 &&& (255 : Int32))) (0 : Int32)) (0 : Int32)) (0 : Int32))), .second, .val (.int (4 : Int32))]) rfl (n := 34) rfl ?_
  refine o_iinc X0 hx (hb hby d_prog_28_method_5_code_34) (w := (5 : Int32)) rfl (by decide) (Ls' := #[.val (.ref a1), .val (.long (o_st (o_st (o_st (o_st (o_st (0 : Int64) (w0 &&& (255 : Int32))) (w1 &&& (255 : Int32))) (0 : Int32)) (0 : Int32)) (0 : Int32))), .second, .val (.int (5 : Int32))]) rfl (n := 37) rfl ?_
  refine o_goto X0 hx (hb hby d_prog_28_method_5_code_37) (by decide) (n := 4) (by decide) ?_
  refine o_iloadN X0 hx (hb hby d_prog_28_method_5_code_4) (v := (5 : Int32)) rfl (n := 5) rfl ?_
  refine o_bipush X0 hx (hb hby d_prog_28_method_5_code_5) (v := (8 : Int32)) rfl (n := 7) rfl ?_
  refine o_icmpN X0 hx (hb hby d_prog_28_method_5_code_7) (XT.ii_ge_f (by decide)) (n := 10) rfl ?_
  refine o_lloadN X0 hx (hb hby d_prog_28_method_5_code_10) (v := (o_st (o_st (o_st (o_st (o_st (0 : Int64) (w0 &&& (255 : Int32))) (w1 &&& (255 : Int32))) (0 : Int32)) (0 : Int32)) (0 : Int32))) rfl (n := 11) rfl ?_
  refine o_bipush X0 hx (hb hby d_prog_28_method_5_code_11) (v := (8 : Int32)) rfl (n := 13) rfl ?_
  refine o_lshl X0 hx (hb hby d_prog_28_method_5_code_13) (v := ((o_st (o_st (o_st (o_st (o_st (0 : Int64) (w0 &&& (255 : Int32))) (w1 &&& (255 : Int32))) (0 : Int32)) (0 : Int32)) (0 : Int32)) <<< (8 : Int64))) rfl (n := 14) rfl ?_
  refine o_iloadN X0 hx (hb hby d_prog_28_method_5_code_14) (v := (5 : Int32)) rfl (n := 15) rfl ?_
  refine o_aloadN X0 hx (hb hby d_prog_28_method_5_code_15) (v := (.ref a1)) rfl rfl (n := 16) rfl ?_
  refine o_arraylength X0 hx hZ e0 pV_a1 (hb hby d_prog_28_method_5_code_16) (n := 17) rfl ?_
  refine o_icmpY X0 hx (hb hby d_prog_28_method_5_code_17) (XT.ii_ge_t (by decide)) (by decide) (n := 30) (by decide) ?_
  refine o_iconst X0 hx (hb hby d_prog_28_method_5_code_30) (v := (0 : Int32)) rfl (n := 31) rfl ?_
  refine o_i2l X0 hx (hb hby d_prog_28_method_5_code_31) (v := (0 : Int64)) (by decide) (n := 32) rfl ?_
  refine o_lor X0 hx (hb hby d_prog_28_method_5_code_32) (v := (o_st (o_st (o_st (o_st (o_st (o_st (0 : Int64) (w0 &&& (255 : Int32))) (w1 &&& (255 : Int32))) (0 : Int32)) (0 : Int32)) (0 : Int32)) (0 : Int32))) rfl (n := 33) rfl ?_
  refine o_lstoreN X0 hx (hb hby d_prog_28_method_5_code_33) (Ls' := #[.val (.ref a1), .val (.long (o_st (o_st (o_st (o_st (o_st (o_st (0 : Int64) (w0 &&& (255 : Int32))) (w1 &&& (255 : Int32))) (0 : Int32)) (0 : Int32)) (0 : Int32)) (0 : Int32))), .second, .val (.int (5 : Int32))]) rfl (n := 34) rfl ?_
  refine o_iinc X0 hx (hb hby d_prog_28_method_5_code_34) (w := (6 : Int32)) rfl (by decide) (Ls' := #[.val (.ref a1), .val (.long (o_st (o_st (o_st (o_st (o_st (o_st (0 : Int64) (w0 &&& (255 : Int32))) (w1 &&& (255 : Int32))) (0 : Int32)) (0 : Int32)) (0 : Int32)) (0 : Int32))), .second, .val (.int (6 : Int32))]) rfl (n := 37) rfl ?_
  refine o_goto X0 hx (hb hby d_prog_28_method_5_code_37) (by decide) (n := 4) (by decide) ?_
  refine o_iloadN X0 hx (hb hby d_prog_28_method_5_code_4) (v := (6 : Int32)) rfl (n := 5) rfl ?_
  refine o_bipush X0 hx (hb hby d_prog_28_method_5_code_5) (v := (8 : Int32)) rfl (n := 7) rfl ?_
  refine o_icmpN X0 hx (hb hby d_prog_28_method_5_code_7) (XT.ii_ge_f (by decide)) (n := 10) rfl ?_
  refine o_lloadN X0 hx (hb hby d_prog_28_method_5_code_10) (v := (o_st (o_st (o_st (o_st (o_st (o_st (0 : Int64) (w0 &&& (255 : Int32))) (w1 &&& (255 : Int32))) (0 : Int32)) (0 : Int32)) (0 : Int32)) (0 : Int32))) rfl (n := 11) rfl ?_
  refine o_bipush X0 hx (hb hby d_prog_28_method_5_code_11) (v := (8 : Int32)) rfl (n := 13) rfl ?_
  refine o_lshl X0 hx (hb hby d_prog_28_method_5_code_13) (v := ((o_st (o_st (o_st (o_st (o_st (o_st (0 : Int64) (w0 &&& (255 : Int32))) (w1 &&& (255 : Int32))) (0 : Int32)) (0 : Int32)) (0 : Int32)) (0 : Int32)) <<< (8 : Int64))) rfl (n := 14) rfl ?_
  refine o_iloadN X0 hx (hb hby d_prog_28_method_5_code_14) (v := (6 : Int32)) rfl (n := 15) rfl ?_
  refine o_aloadN X0 hx (hb hby d_prog_28_method_5_code_15) (v := (.ref a1)) rfl rfl (n := 16) rfl ?_
  refine o_arraylength X0 hx hZ e0 pV_a1 (hb hby d_prog_28_method_5_code_16) (n := 17) rfl ?_
  refine o_icmpY X0 hx (hb hby d_prog_28_method_5_code_17) (XT.ii_ge_t (by decide)) (by decide) (n := 30) (by decide) ?_
  refine o_iconst X0 hx (hb hby d_prog_28_method_5_code_30) (v := (0 : Int32)) rfl (n := 31) rfl ?_
  refine o_i2l X0 hx (hb hby d_prog_28_method_5_code_31) (v := (0 : Int64)) (by decide) (n := 32) rfl ?_
  refine o_lor X0 hx (hb hby d_prog_28_method_5_code_32) (v := (o_st (o_st (o_st (o_st (o_st (o_st (o_st (0 : Int64) (w0 &&& (255 : Int32))) (w1 &&& (255 : Int32))) (0 : Int32)) (0 : Int32)) (0 : Int32)) (0 : Int32)) (0 : Int32))) rfl (n := 33) rfl ?_
  refine o_lstoreN X0 hx (hb hby d_prog_28_method_5_code_33) (Ls' := #[.val (.ref a1), .val (.long (o_st (o_st (o_st (o_st (o_st (o_st (o_st (0 : Int64) (w0 &&& (255 : Int32))) (w1 &&& (255 : Int32))) (0 : Int32)) (0 : Int32)) (0 : Int32)) (0 : Int32)) (0 : Int32))), .second, .val (.int (6 : Int32))]) rfl (n := 34) rfl ?_
  refine o_iinc X0 hx (hb hby d_prog_28_method_5_code_34) (w := (7 : Int32)) rfl (by decide) (Ls' := #[.val (.ref a1), .val (.long (o_st (o_st (o_st (o_st (o_st (o_st (o_st (0 : Int64) (w0 &&& (255 : Int32))) (w1 &&& (255 : Int32))) (0 : Int32)) (0 : Int32)) (0 : Int32)) (0 : Int32)) (0 : Int32))), .second, .val (.int (7 : Int32))]) rfl (n := 37) rfl ?_
  refine o_goto X0 hx (hb hby d_prog_28_method_5_code_37) (by decide) (n := 4) (by decide) ?_
  refine o_iloadN X0 hx (hb hby d_prog_28_method_5_code_4) (v := (7 : Int32)) rfl (n := 5) rfl ?_
  refine o_bipush X0 hx (hb hby d_prog_28_method_5_code_5) (v := (8 : Int32)) rfl (n := 7) rfl ?_
  refine o_icmpN X0 hx (hb hby d_prog_28_method_5_code_7) (XT.ii_ge_f (by decide)) (n := 10) rfl ?_
  refine o_lloadN X0 hx (hb hby d_prog_28_method_5_code_10) (v := (o_st (o_st (o_st (o_st (o_st (o_st (o_st (0 : Int64) (w0 &&& (255 : Int32))) (w1 &&& (255 : Int32))) (0 : Int32)) (0 : Int32)) (0 : Int32)) (0 : Int32)) (0 : Int32))) rfl (n := 11) rfl ?_
  refine o_bipush X0 hx (hb hby d_prog_28_method_5_code_11) (v := (8 : Int32)) rfl (n := 13) rfl ?_
  refine o_lshl X0 hx (hb hby d_prog_28_method_5_code_13) (v := ((o_st (o_st (o_st (o_st (o_st (o_st (o_st (0 : Int64) (w0 &&& (255 : Int32))) (w1 &&& (255 : Int32))) (0 : Int32)) (0 : Int32)) (0 : Int32)) (0 : Int32)) (0 : Int32)) <<< (8 : Int64))) rfl (n := 14) rfl ?_
  refine o_iloadN X0 hx (hb hby d_prog_28_method_5_code_14) (v := (7 : Int32)) rfl (n := 15) rfl ?_
  refine o_aloadN X0 hx (hb hby d_prog_28_method_5_code_15) (v := (.ref a1)) rfl rfl (n := 16) rfl ?_
  refine o_arraylength X0 hx hZ e0 pV_a1 (hb hby d_prog_28_method_5_code_16) (n := 17) rfl ?_
  refine o_icmpY X0 hx (hb hby d_prog_28_method_5_code_17) (XT.ii_ge_t (by decide)) (by decide) (n := 30) (by decide) ?_
  refine o_iconst X0 hx (hb hby d_prog_28_method_5_code_30) (v := (0 : Int32)) rfl (n := 31) rfl ?_
  refine o_i2l X0 hx (hb hby d_prog_28_method_5_code_31) (v := (0 : Int64)) (by decide) (n := 32) rfl ?_
  refine o_lor X0 hx (hb hby d_prog_28_method_5_code_32) (v := (o_st (o_st (o_st (o_st (o_st (o_st (o_st (o_st (0 : Int64) (w0 &&& (255 : Int32))) (w1 &&& (255 : Int32))) (0 : Int32)) (0 : Int32)) (0 : Int32)) (0 : Int32)) (0 : Int32)) (0 : Int32))) rfl (n := 33) rfl ?_
  refine o_lstoreN X0 hx (hb hby d_prog_28_method_5_code_33) (Ls' := #[.val (.ref a1), .val (.long (o_st (o_st (o_st (o_st (o_st (o_st (o_st (o_st (0 : Int64) (w0 &&& (255 : Int32))) (w1 &&& (255 : Int32))) (0 : Int32)) (0 : Int32)) (0 : Int32)) (0 : Int32)) (0 : Int32)) (0 : Int32))), .second, .val (.int (7 : Int32))]) rfl (n := 34) rfl ?_
  refine o_iinc X0 hx (hb hby d_prog_28_method_5_code_34) (w := (8 : Int32)) rfl (by decide) (Ls' := #[.val (.ref a1), .val (.long (o_st (o_st (o_st (o_st (o_st (o_st (o_st (o_st (0 : Int64) (w0 &&& (255 : Int32))) (w1 &&& (255 : Int32))) (0 : Int32)) (0 : Int32)) (0 : Int32)) (0 : Int32)) (0 : Int32)) (0 : Int32))), .second, .val (.int (8 : Int32))]) rfl (n := 37) rfl ?_
  refine o_goto X0 hx (hb hby d_prog_28_method_5_code_37) (by decide) (n := 4) (by decide) ?_
  refine o_iloadN X0 hx (hb hby d_prog_28_method_5_code_4) (v := (8 : Int32)) rfl (n := 5) rfl ?_
  refine o_bipush X0 hx (hb hby d_prog_28_method_5_code_5) (v := (8 : Int32)) rfl (n := 7) rfl ?_
  refine o_icmpY X0 hx (hb hby d_prog_28_method_5_code_7) (XT.ii_ge_t (by decide)) (by decide) (n := 40) (by decide) ?_
  refine o_lloadN X0 hx (hb hby d_prog_28_method_5_code_40) (v := (o_st (o_st (o_st (o_st (o_st (o_st (o_st (o_st (0 : Int64) (w0 &&& (255 : Int32))) (w1 &&& (255 : Int32))) (0 : Int32)) (0 : Int32)) (0 : Int32)) (0 : Int32)) (0 : Int32)) (0 : Int32))) rfl (n := 41) rfl ?_
  exact o_lreturn X0 hx hret hlk (hb hby d_prog_28_method_5_code_41) (by decide) (by decide) e0 ⟨rfl, rfl, rfl⟩
theorem o_ef6 (m : MethodId) (p0 : Int64) : entryFrame m #[(.long p0), (.int (2 : Int32))] 3 = mkF m 0 #[.val (.long p0), .second, .val (.int (2 : Int32))] [] := by first | (simp [entryFrame, mkF, argsToLocals, Value.category]; done) | rfl
set_option maxRecDepth 65536 in
set_option maxHeartbeats 40000000 in
theorem c_exp_2 (l : Launch) (Z : State) (a0 : Array Value) (hw : ∀ d ∈ tables_1, d.before a0 Z = true) (p0 : Int64) (h0 : Heap) :
    Does l Z (⟨"com/example/variform/variform/variant/Utf8HeadPinLaw", "expected", "(JI)J"⟩ : MethodName) method_2_code 3 (some .long) [] ({ frames := 0, cells := 0, slots := 0, locals := 0 } : Room) #[(.long p0), (.int (2 : Int32))] h0 (Pur h0 (.long (p0 &&& (-281474976710656 : Int64)))) := by
  refine Does.of (plainFor_of_name o_pn1) ?_
  intro p e s m below meth c T0 hx hby hml hown hnm hret hlk hZ X0 e0
  have hown : s.vm.findClass "com/example/variform/variform/variant/Utf8HeadPinLaw" = some m.cls := hown
  have hml : c.maxLocals = 3 := hml
  have hret : meth.sig.returnType = some .long := hret
  refine o_entry (o_ef6 m p0) ?_
  refine o_iloadN X0 hx (hb hby d_method_2_code_0) (v := (2 : Int32)) rfl (n := 1) rfl ?_
  refine o_ifY X0 hx (hb hby d_method_2_code_1) (XT.i0_ne_t (by decide)) (by decide) (n := 6) (by decide) ?_
  refine o_iloadN X0 hx (hb hby d_method_2_code_6) (v := (2 : Int32)) rfl (n := 7) rfl ?_
  refine o_bipush X0 hx (hb hby d_method_2_code_7) (v := (8 : Int32)) rfl (n := 9) rfl ?_
  refine o_icmpY X0 hx (hb hby d_method_2_code_9) (XT.ii_lt_t (by decide)) (by decide) (n := 14) (by decide) ?_
  refine o_lloadN X0 hx (hb hby d_method_2_code_14) (v := p0) rfl (n := 15) rfl ?_
  refine o_ldc2_w X0 hx hZ (v := (-1 : Int64)) hown (hw _ (List.mem_of_getElem? (i := 10) rfl)) (hb hby d_method_2_code_15) (n := 18) rfl ?_
  refine o_bipush X0 hx (hb hby d_method_2_code_18) (v := (8 : Int32)) rfl (n := 20) rfl ?_
  refine o_bipush X0 hx (hb hby d_method_2_code_20) (v := (8 : Int32)) rfl (n := 22) rfl ?_
  refine o_iloadN X0 hx (hb hby d_method_2_code_22) (v := (2 : Int32)) rfl (n := 23) rfl ?_
  refine o_isub X0 hx (hb hby d_method_2_code_23) (v := (6 : Int32)) (by decide) (n := 24) rfl ?_
  refine o_imul X0 hx (hb hby d_method_2_code_24) (v := (48 : Int32)) (by decide) (n := 25) rfl ?_
  refine o_lshl X0 hx (hb hby d_method_2_code_25) (v := (-281474976710656 : Int64)) (by decide) (n := 26) rfl ?_
  refine o_land X0 hx (hb hby d_method_2_code_26) (v := (p0 &&& (-281474976710656 : Int64))) rfl (n := 27) rfl ?_
  exact o_lreturn X0 hx hret hlk (hb hby d_method_2_code_27) (by decide) (by decide) e0 ⟨rfl, rfl, rfl⟩
theorem o_ef7 (m : MethodId) (a1 : Addr) : entryFrame m #[(.ref a1)] 4 = mkF m 0 #[.val (.ref a1), .unset, .unset, .unset] [] := by first | (simp [entryFrame, mkF, argsToLocals, Value.category]; done) | rfl
set_option maxRecDepth 65536 in
set_option maxHeartbeats 40000000 in
theorem c_head_3 (l : Launch) (Z : State) (a0 : Array Value) (hw : ∀ d ∈ tables_1, d.before a0 Z = true) (a1 : Addr) (k1 : ClassId) (w0 : Int32) (w1 : Int32) (w2 : Int32) (h0 : Heap) (pV_a1 : Arv Z h0 a1 k1 .byte (3 : Int32) [(.int w0), (.int w1), (.int w2)] (.int (0 : Int32))) :
    Does l Z (⟨"com/example/variform/variform/variant/Utf8", "head", "([B)J"⟩ : MethodName) prog_28_method_5_code 4 (some .long) [] ({ frames := 0, cells := 0, slots := 0, locals := 0 } : Room) #[(.ref a1)] h0 (Pur h0 (.long (o_st (o_st (o_st (o_st (o_st (o_st (o_st (o_st (0 : Int64) (w0 &&& (255 : Int32))) (w1 &&& (255 : Int32))) (w2 &&& (255 : Int32))) (0 : Int32)) (0 : Int32)) (0 : Int32)) (0 : Int32)) (0 : Int32)))) := by
  refine Does.of (plainFor_of_name o_pn0) ?_
  intro p e s m below meth c T0 hx hby hml hown hnm hret hlk hZ X0 e0
  have hown : s.vm.findClass "com/example/variform/variform/variant/Utf8" = some m.cls := hown
  have hml : c.maxLocals = 4 := hml
  have hret : meth.sig.returnType = some .long := hret
  refine o_entry (o_ef7 m a1) ?_
  refine o_lconst X0 hx (hb hby d_prog_28_method_5_code_0) (v := (0 : Int64)) rfl (n := 1) rfl ?_
  refine o_lstoreN X0 hx (hb hby d_prog_28_method_5_code_1) (Ls' := #[.val (.ref a1), .val (.long (0 : Int64)), .second, .unset]) rfl (n := 2) rfl ?_
  refine o_iconst X0 hx (hb hby d_prog_28_method_5_code_2) (v := (0 : Int32)) rfl (n := 3) rfl ?_
  refine o_istoreN X0 hx (hb hby d_prog_28_method_5_code_3) (Ls' := #[.val (.ref a1), .val (.long (0 : Int64)), .second, .val (.int (0 : Int32))]) rfl (n := 4) rfl ?_
  refine o_iloadN X0 hx (hb hby d_prog_28_method_5_code_4) (v := (0 : Int32)) rfl (n := 5) rfl ?_
  refine o_bipush X0 hx (hb hby d_prog_28_method_5_code_5) (v := (8 : Int32)) rfl (n := 7) rfl ?_
  refine o_icmpN X0 hx (hb hby d_prog_28_method_5_code_7) (XT.ii_ge_f (by decide)) (n := 10) rfl ?_
  refine o_lloadN X0 hx (hb hby d_prog_28_method_5_code_10) (v := (0 : Int64)) rfl (n := 11) rfl ?_
  refine o_bipush X0 hx (hb hby d_prog_28_method_5_code_11) (v := (8 : Int32)) rfl (n := 13) rfl ?_
  refine o_lshl X0 hx (hb hby d_prog_28_method_5_code_13) (v := ((0 : Int64) <<< (8 : Int64))) rfl (n := 14) rfl ?_
  refine o_iloadN X0 hx (hb hby d_prog_28_method_5_code_14) (v := (0 : Int32)) rfl (n := 15) rfl ?_
  refine o_aloadN X0 hx (hb hby d_prog_28_method_5_code_15) (v := (.ref a1)) rfl rfl (n := 16) rfl ?_
  refine o_arraylength X0 hx hZ e0 pV_a1 (hb hby d_prog_28_method_5_code_16) (n := 17) rfl ?_
  refine o_icmpN X0 hx (hb hby d_prog_28_method_5_code_17) (XT.ii_ge_f (by decide)) (n := 20) rfl ?_
  refine o_aloadN X0 hx (hb hby d_prog_28_method_5_code_20) (v := (.ref a1)) rfl rfl (n := 21) rfl ?_
  refine o_iloadN X0 hx (hb hby d_prog_28_method_5_code_21) (v := (0 : Int32)) rfl (n := 22) rfl ?_
  refine o_baload X0 hx hZ e0 pV_a1 (0) (by decide) (by decide) (v := (.int w0)) rfl (hb hby d_prog_28_method_5_code_22) (n := 23) rfl ?_
  refine o_sipush X0 hx (hb hby d_prog_28_method_5_code_23) (v := (255 : Int32)) rfl (n := 26) rfl ?_
  refine o_iand X0 hx (hb hby d_prog_28_method_5_code_26) (v := (w0 &&& (255 : Int32))) rfl (n := 27) rfl ?_
  refine o_goto X0 hx (hb hby d_prog_28_method_5_code_27) (by decide) (n := 31) (by decide) ?_
  refine o_i2l X0 hx (hb hby d_prog_28_method_5_code_31) (v := (w0 &&& (255 : Int32)).toInt64) rfl (n := 32) rfl ?_
  refine o_lor X0 hx (hb hby d_prog_28_method_5_code_32) (v := (o_st (0 : Int64) (w0 &&& (255 : Int32)))) rfl (n := 33) rfl ?_
  refine o_lstoreN X0 hx (hb hby d_prog_28_method_5_code_33) (Ls' := #[.val (.ref a1), .val (.long (o_st (0 : Int64) (w0 &&& (255 : Int32)))), .second, .val (.int (0 : Int32))]) rfl (n := 34) rfl ?_
  refine o_iinc X0 hx (hb hby d_prog_28_method_5_code_34) (w := (1 : Int32)) rfl (by decide) (Ls' := #[.val (.ref a1), .val (.long (o_st (0 : Int64) (w0 &&& (255 : Int32)))), .second, .val (.int (1 : Int32))]) rfl (n := 37) rfl ?_
  refine o_goto X0 hx (hb hby d_prog_28_method_5_code_37) (by decide) (n := 4) (by decide) ?_
  refine o_iloadN X0 hx (hb hby d_prog_28_method_5_code_4) (v := (1 : Int32)) rfl (n := 5) rfl ?_
  refine o_bipush X0 hx (hb hby d_prog_28_method_5_code_5) (v := (8 : Int32)) rfl (n := 7) rfl ?_
  refine o_icmpN X0 hx (hb hby d_prog_28_method_5_code_7) (XT.ii_ge_f (by decide)) (n := 10) rfl ?_
  refine o_lloadN X0 hx (hb hby d_prog_28_method_5_code_10) (v := (o_st (0 : Int64) (w0 &&& (255 : Int32)))) rfl (n := 11) rfl ?_
  refine o_bipush X0 hx (hb hby d_prog_28_method_5_code_11) (v := (8 : Int32)) rfl (n := 13) rfl ?_
  refine o_lshl X0 hx (hb hby d_prog_28_method_5_code_13) (v := ((o_st (0 : Int64) (w0 &&& (255 : Int32))) <<< (8 : Int64))) rfl (n := 14) rfl ?_
  refine o_iloadN X0 hx (hb hby d_prog_28_method_5_code_14) (v := (1 : Int32)) rfl (n := 15) rfl ?_
  refine o_aloadN X0 hx (hb hby d_prog_28_method_5_code_15) (v := (.ref a1)) rfl rfl (n := 16) rfl ?_
  refine o_arraylength X0 hx hZ e0 pV_a1 (hb hby d_prog_28_method_5_code_16) (n := 17) rfl ?_
  refine o_icmpN X0 hx (hb hby d_prog_28_method_5_code_17) (XT.ii_ge_f (by decide)) (n := 20) rfl ?_
  refine o_aloadN X0 hx (hb hby d_prog_28_method_5_code_20) (v := (.ref a1)) rfl rfl (n := 21) rfl ?_
  refine o_iloadN X0 hx (hb hby d_prog_28_method_5_code_21) (v := (1 : Int32)) rfl (n := 22) rfl ?_
  refine o_baload X0 hx hZ e0 pV_a1 (1) (by decide) (by decide) (v := (.int w1)) rfl (hb hby d_prog_28_method_5_code_22) (n := 23) rfl ?_
  refine o_sipush X0 hx (hb hby d_prog_28_method_5_code_23) (v := (255 : Int32)) rfl (n := 26) rfl ?_
  refine o_iand X0 hx (hb hby d_prog_28_method_5_code_26) (v := (w1 &&& (255 : Int32))) rfl (n := 27) rfl ?_
  refine o_goto X0 hx (hb hby d_prog_28_method_5_code_27) (by decide) (n := 31) (by decide) ?_
  refine o_i2l X0 hx (hb hby d_prog_28_method_5_code_31) (v := (w1 &&& (255 : Int32)).toInt64) rfl (n := 32) rfl ?_
  refine o_lor X0 hx (hb hby d_prog_28_method_5_code_32) (v := (o_st (o_st (0 : Int64) (w0 &&& (255 : Int32))) (w1 &&& (255 : Int32)))) rfl (n := 33) rfl ?_
  refine o_lstoreN X0 hx (hb hby d_prog_28_method_5_code_33) (Ls' := #[.val (.ref a1), .val (.long (o_st (o_st (0 : Int64) (w0 &&& (255 : Int32))) (w1 &&& (255 : Int32)))), .second, .val (.int (1 : Int32))]) rfl (n := 34) rfl ?_
  refine o_iinc X0 hx (hb hby d_prog_28_method_5_code_34) (w := (2 : Int32)) rfl (by decide) (Ls' := #[.val (.ref a1), .val (.long (o_st (o_st (0 : Int64) (w0 &&& (255 : Int32))) (w1 &&& (255 : Int32)))), .second, .val (.int (2 : Int32))]) rfl (n := 37) rfl ?_
  refine o_goto X0 hx (hb hby d_prog_28_method_5_code_37) (by decide) (n := 4) (by decide) ?_
  refine o_iloadN X0 hx (hb hby d_prog_28_method_5_code_4) (v := (2 : Int32)) rfl (n := 5) rfl ?_
  refine o_bipush X0 hx (hb hby d_prog_28_method_5_code_5) (v := (8 : Int32)) rfl (n := 7) rfl ?_
  refine o_icmpN X0 hx (hb hby d_prog_28_method_5_code_7) (XT.ii_ge_f (by decide)) (n := 10) rfl ?_
  refine o_lloadN X0 hx (hb hby d_prog_28_method_5_code_10) (v := (o_st (o_st (0 : Int64) (w0 &&& (255 : Int32))) (w1 &&& (255 : Int32)))) rfl (n := 11) rfl ?_
  refine o_bipush X0 hx (hb hby d_prog_28_method_5_code_11) (v := (8 : Int32)) rfl (n := 13) rfl ?_
  refine o_lshl X0 hx (hb hby d_prog_28_method_5_code_13) (v := ((o_st (o_st (0 : Int64) (w0 &&& (255 : Int32))) (w1 &&& (255 : Int32))) <<< (8 : Int64))) rfl (n := 14) rfl ?_
  refine o_iloadN X0 hx (hb hby d_prog_28_method_5_code_14) (v := (2 : Int32)) rfl (n := 15) rfl ?_
  refine o_aloadN X0 hx (hb hby d_prog_28_method_5_code_15) (v := (.ref a1)) rfl rfl (n := 16) rfl ?_
  refine o_arraylength X0 hx hZ e0 pV_a1 (hb hby d_prog_28_method_5_code_16) (n := 17) rfl ?_
  refine o_icmpN X0 hx (hb hby d_prog_28_method_5_code_17) (XT.ii_ge_f (by decide)) (n := 20) rfl ?_
  refine o_aloadN X0 hx (hb hby d_prog_28_method_5_code_20) (v := (.ref a1)) rfl rfl (n := 21) rfl ?_
  refine o_iloadN X0 hx (hb hby d_prog_28_method_5_code_21) (v := (2 : Int32)) rfl (n := 22) rfl ?_
  refine o_baload X0 hx hZ e0 pV_a1 (2) (by decide) (by decide) (v := (.int w2)) rfl (hb hby d_prog_28_method_5_code_22) (n := 23) rfl ?_
  refine o_sipush X0 hx (hb hby d_prog_28_method_5_code_23) (v := (255 : Int32)) rfl (n := 26) rfl ?_
  refine o_iand X0 hx (hb hby d_prog_28_method_5_code_26) (v := (w2 &&& (255 : Int32))) rfl (n := 27) rfl ?_
  refine o_goto X0 hx (hb hby d_prog_28_method_5_code_27) (by decide) (n := 31) (by decide) ?_
  refine o_i2l X0 hx (hb hby d_prog_28_method_5_code_31) (v := (w2 &&& (255 : Int32)).toInt64) rfl (n := 32) rfl ?_
  refine o_lor X0 hx (hb hby d_prog_28_method_5_code_32) (v := (o_st (o_st (o_st (0 : Int64) (w0 &&& (255 : Int32))) (w1 &&& (255 : Int32))) (w2 &&& (255 : Int32)))) rfl (n := 33) rfl ?_
  refine o_lstoreN X0 hx (hb hby d_prog_28_method_5_code_33) (Ls' := #[.val (.ref a1), .val (.long (o_st (o_st (o_st (0 : Int64) (w0 &&& (255 : Int32))) (w1 &&& (255 : Int32))) (w2 &&& (255 : Int32)))), .second, .val (.int (2 : Int32))]) rfl (n := 34) rfl ?_
  refine o_iinc X0 hx (hb hby d_prog_28_method_5_code_34) (w := (3 : Int32)) rfl (by decide) (Ls' := #[.val (.ref a1), .val (.long (o_st (o_st (o_st (0 : Int64) (w0 &&& (255 : Int32))) (w1 &&& (255 : Int32))) (w2 &&& (255 : Int32)))), .second, .val (.int (3 : Int32))]) rfl (n := 37) rfl ?_
  refine o_goto X0 hx (hb hby d_prog_28_method_5_code_37) (by decide) (n := 4) (by decide) ?_
  refine o_iloadN X0 hx (hb hby d_prog_28_method_5_code_4) (v := (3 : Int32)) rfl (n := 5) rfl ?_
  refine o_bipush X0 hx (hb hby d_prog_28_method_5_code_5) (v := (8 : Int32)) rfl (n := 7) rfl ?_
  refine o_icmpN X0 hx (hb hby d_prog_28_method_5_code_7) (XT.ii_ge_f (by decide)) (n := 10) rfl ?_
  refine o_lloadN X0 hx (hb hby d_prog_28_method_5_code_10) (v := (o_st (o_st (o_st (0 : Int64) (w0 &&& (255 : Int32))) (w1 &&& (255 : Int32))) (w2 &&& (255 : Int32)))) rfl (n := 11) rfl ?_
  refine o_bipush X0 hx (hb hby d_prog_28_method_5_code_11) (v := (8 : Int32)) rfl (n := 13) rfl ?_
  refine o_lshl X0 hx (hb hby d_prog_28_method_5_code_13) (v := ((o_st (o_st (o_st (0 : Int64) (w0 &&& (255 : Int32))) (w1 &&& (255 : Int32))) (w2 &&& (255 : Int32))) <<< (8 : Int64))) rfl (n := 14) rfl ?_
  refine o_iloadN X0 hx (hb hby d_prog_28_method_5_code_14) (v := (3 : Int32)) rfl (n := 15) rfl ?_
  refine o_aloadN X0 hx (hb hby d_prog_28_method_5_code_15) (v := (.ref a1)) rfl rfl (n := 16) rfl ?_
  refine o_arraylength X0 hx hZ e0 pV_a1 (hb hby d_prog_28_method_5_code_16) (n := 17) rfl ?_
  refine o_icmpY X0 hx (hb hby d_prog_28_method_5_code_17) (XT.ii_ge_t (by decide)) (by decide) (n := 30) (by decide) ?_
  refine o_iconst X0 hx (hb hby d_prog_28_method_5_code_30) (v := (0 : Int32)) rfl (n := 31) rfl ?_
  refine o_i2l X0 hx (hb hby d_prog_28_method_5_code_31) (v := (0 : Int64)) (by decide) (n := 32) rfl ?_
  refine o_lor X0 hx (hb hby d_prog_28_method_5_code_32) (v := (o_st (o_st (o_st (o_st (0 : Int64) (w0 &&& (255 : Int32))) (w1 &&& (255 : Int32))) (w2 &&& (255 : Int32))) (0 : Int32))) rfl (n := 33) rfl ?_
  refine o_lstoreN X0 hx (hb hby d_prog_28_method_5_code_33) (Ls' := #[.val (.ref a1), .val (.long (o_st (o_st (o_st (o_st (0 : Int64) (w0 &&& (255 : Int32))) (w1 &&& (255 : Int32))) (w2 &&& (255 : Int32))) (0 : Int32))), .second, .val (.int (3 : Int32))]) rfl (n := 34) rfl ?_
  refine o_iinc X0 hx (hb hby d_prog_28_method_5_code_34) (w := (4 : Int32)) rfl (by decide) (Ls' := #[.val (.ref a1), .val (.long (o_st (o_st (o_st (o_st (0 : Int64) (w0 &&& (255 : Int32))) (w1 &&& (255 : Int32))) (w2 &&& (255 : Int32))) (0 : Int32))), .second, .val (.int (4 : Int32))]) rfl (n := 37) rfl ?_
  refine o_goto X0 hx (hb hby d_prog_28_method_5_code_37) (by decide) (n := 4) (by decide) ?_
  refine o_iloadN X0 hx (hb hby d_prog_28_method_5_code_4) (v := (4 : Int32)) rfl (n := 5) rfl ?_
  refine o_bipush X0 hx (hb hby d_prog_28_method_5_code_5) (v := (8 : Int32)) rfl (n := 7) rfl ?_
  refine o_icmpN X0 hx (hb hby d_prog_28_method_5_code_7) (XT.ii_ge_f (by decide)) (n := 10) rfl ?_
  refine o_lloadN X0 hx (hb hby d_prog_28_method_5_code_10) (v := (o_st (o_st (o_st (o_st (0 : Int64) (w0 &&& (255 : Int32))) (w1 &&& (255 : Int32))) (w2 &&& (255 : Int32))) (0 : Int32))) rfl (n := 11) rfl ?_
  refine o_bipush X0 hx (hb hby d_prog_28_method_5_code_11) (v := (8 : Int32)) rfl (n := 13) rfl ?_
  refine o_lshl X0 hx (hb hby d_prog_28_method_5_code_13) (v := ((o_st (o_st (o_st (o_st (0 : Int64) (w0 &&& (255 : Int32))) (w1 &&& (255 : Int32))) (w2 &&& (255 : Int32))) (0 : Int32)) <<< (8 : Int64))) rfl (n := 14) rfl ?_
  refine o_iloadN X0 hx (hb hby d_prog_28_method_5_code_14) (v := (4 : Int32)) rfl (n := 15) rfl ?_
  refine o_aloadN X0 hx (hb hby d_prog_28_method_5_code_15) (v := (.ref a1)) rfl rfl (n := 16) rfl ?_
  refine o_arraylength X0 hx hZ e0 pV_a1 (hb hby d_prog_28_method_5_code_16) (n := 17) rfl ?_
  refine o_icmpY X0 hx (hb hby d_prog_28_method_5_code_17) (XT.ii_ge_t (by decide)) (by decide) (n := 30) (by decide) ?_
  refine o_iconst X0 hx (hb hby d_prog_28_method_5_code_30) (v := (0 : Int32)) rfl (n := 31) rfl ?_
  refine o_i2l X0 hx (hb hby d_prog_28_method_5_code_31) (v := (0 : Int64)) (by decide) (n := 32) rfl ?_
  refine o_lor X0 hx (hb hby d_prog_28_method_5_code_32) (v := (o_st (o_st (o_st (o_st (o_st (0 : Int64) (w0 &&& (255 : Int32))) (w1 &&& (255 : Int32))) (w2 &&& (255 : Int32))) (0 : Int32)) (0 : Int32))) rfl (n := 33) rfl ?_
  refine o_lstoreN X0 hx (hb hby d_prog_28_method_5_code_33) (Ls' := #[.val (.ref a1), .val (.long (o_st (o_st (o_st (o_st (o_st (0 : Int64) (w0 &&& (255 : Int32))) (w1 &&& (255 : Int32))) (w2 &&& (255 : Int32))) (0 : Int32)) (0 : Int32))), .second, .val (.int (4 : Int32))]) rfl (n := 34) rfl ?_
  refine o_iinc X0 hx (hb hby d_prog_28_method_5_code_34) (w := (5 : Int32)) rfl (by decide) (Ls' := #[.val (.ref a1), .val (.long (o_st (o_st (o_st (o_st (o_st (0 : Int64) (w0 &&& (255 : Int32))) (w1 &&& (255 : Int32))) (w2 &&& (255 : Int32))) (0 : Int32)) (0 : Int32))), .second, .val (.int (5 : Int32))]) rfl (n := 37) rfl ?_
  refine o_goto X0 hx (hb hby d_prog_28_method_5_code_37) (by decide) (n := 4) (by decide) ?_
  refine o_iloadN X0 hx (hb hby d_prog_28_method_5_code_4) (v := (5 : Int32)) rfl (n := 5) rfl ?_
  refine o_bipush X0 hx (hb hby d_prog_28_method_5_code_5) (v := (8 : Int32)) rfl (n := 7) rfl ?_
  refine o_icmpN X0 hx (hb hby d_prog_28_method_5_code_7) (XT.ii_ge_f (by decide)) (n := 10) rfl ?_
  refine o_lloadN X0 hx (hb hby d_prog_28_method_5_code_10) (v := (o_st (o_st (o_st (o_st (o_st (0 : Int64) (w0 &&& (255 : Int32))) (w1 &&& (255 : Int32))) (w2 &&& (255 : Int32))) (0 : Int32)) (0 : Int32))) rfl (n := 11) rfl ?_
  refine o_bipush X0 hx (hb hby d_prog_28_method_5_code_11) (v := (8 : Int32)) rfl (n := 13) rfl ?_
  refine o_lshl X0 hx (hb hby d_prog_28_method_5_code_13) (v := ((o_st (o_st (o_st (o_st (o_st (0 : Int64) (w0 &&& (255 : Int32))) (w1 &&& (255 : Int32))) (w2 &&& (255 : Int32))) (0 : Int32)) (0 : Int32)) <<< (8 : Int64))) rfl (n := 14) rfl ?_
  refine o_iloadN X0 hx (hb hby d_prog_28_method_5_code_14) (v := (5 : Int32)) rfl (n := 15) rfl ?_
  refine o_aloadN X0 hx (hb hby d_prog_28_method_5_code_15) (v := (.ref a1)) rfl rfl (n := 16) rfl ?_
  refine o_arraylength X0 hx hZ e0 pV_a1 (hb hby d_prog_28_method_5_code_16) (n := 17) rfl ?_
  refine o_icmpY X0 hx (hb hby d_prog_28_method_5_code_17) (XT.ii_ge_t (by decide)) (by decide) (n := 30) (by decide) ?_
  refine o_iconst X0 hx (hb hby d_prog_28_method_5_code_30) (v := (0 : Int32)) rfl (n := 31) rfl ?_
  refine o_i2l X0 hx (hb hby d_prog_28_method_5_code_31) (v := (0 : Int64)) (by decide) (n := 32) rfl ?_
  refine o_lor X0 hx (hb hby d_prog_28_method_5_code_32) (v := (o_st (o_st (o_st (o_st (o_st (o_st (0 : Int64) (w0 &&& (255 : Int32))) (w1 &&& (255 : Int32))) (w2 &&& (255 : Int32))) (0 : Int32)) (0 : Int32)) (0 : Int32))) rfl (n := 33) rfl ?_
  refine o_lstoreN X0 hx (hb hby d_prog_28_method_5_code_33) (Ls' := #[.val (.ref a1), .val (.long (o_st (o_st (o_st (o_st (o_st (o_st (0 : Int64) (w0 &&& (255 : Int32))) (w1 &&& (255 : Int32))) (w2 &&& (255 : Int32))) (0 : Int32)) (0 : Int32)) (0 : Int32))), .second, .val (.int (5 : Int32))]) rfl (n := 34) rfl ?_
  refine o_iinc X0 hx (hb hby d_prog_28_method_5_code_34) (w := (6 : Int32)) rfl (by decide) (Ls' := #[.val (.ref a1), .val (.long (o_st (o_st (o_st (o_st (o_st (o_st (0 : Int64) (w0 &&& (255 : Int32))) (w1 &&& (255 : Int32))) (w2 &&& (255 : Int32))) (0 : Int32)) (0 : Int32)) (0 : Int32))), .second, .val (.int (6 : Int32))]) rfl (n := 37) rfl ?_
  refine o_goto X0 hx (hb hby d_prog_28_method_5_code_37) (by decide) (n := 4) (by decide) ?_
  refine o_iloadN X0 hx (hb hby d_prog_28_method_5_code_4) (v := (6 : Int32)) rfl (n := 5) rfl ?_
  refine o_bipush X0 hx (hb hby d_prog_28_method_5_code_5) (v := (8 : Int32)) rfl (n := 7) rfl ?_
  refine o_icmpN X0 hx (hb hby d_prog_28_method_5_code_7) (XT.ii_ge_f (by decide)) (n := 10) rfl ?_
  refine o_lloadN X0 hx (hb hby d_prog_28_method_5_code_10) (v := (o_st (o_st (o_st (o_st (o_st (o_st (0 : Int64) (w0 &&& (255 : Int32))) (w1 &&& (255 : Int32))) (w2 &&& (255 : Int32))) (0 : Int32)) (0 : Int32)) (0 : Int32))) rfl (n := 11) rfl ?_
  refine o_bipush X0 hx (hb hby d_prog_28_method_5_code_11) (v := (8 : Int32)) rfl (n := 13) rfl ?_
  refine o_lshl X0 hx (hb hby d_prog_28_method_5_code_13) (v := ((o_st (o_st (o_st (o_st (o_st (o_st (0 : Int64) (w0 &&& (255 : Int32))) (w1 &&& (255 : Int32))) (w2 &&& (255 : Int32))) (0 : Int32)) (0 : Int32)) (0 : Int32)) <<< (8 : Int64))) rfl (n := 14) rfl ?_
  refine o_iloadN X0 hx (hb hby d_prog_28_method_5_code_14) (v := (6 : Int32)) rfl (n := 15) rfl ?_
  refine o_aloadN X0 hx (hb hby d_prog_28_method_5_code_15) (v := (.ref a1)) rfl rfl (n := 16) rfl ?_
  refine o_arraylength X0 hx hZ e0 pV_a1 (hb hby d_prog_28_method_5_code_16) (n := 17) rfl ?_
  refine o_icmpY X0 hx (hb hby d_prog_28_method_5_code_17) (XT.ii_ge_t (by decide)) (by decide) (n := 30) (by decide) ?_
  refine o_iconst X0 hx (hb hby d_prog_28_method_5_code_30) (v := (0 : Int32)) rfl (n := 31) rfl ?_
  refine o_i2l X0 hx (hb hby d_prog_28_method_5_code_31) (v := (0 : Int64)) (by decide) (n := 32) rfl ?_
  refine o_lor X0 hx (hb hby d_prog_28_method_5_code_32) (v := (o_st (o_st (o_st (o_st (o_st (o_st (o_st (0 : Int64) (w0 &&& (255 : Int32))) (w1 &&& (255 : Int32))) (w2 &&& (255 : Int32))) (0 : Int32)) (0 : Int32)) (0 : Int32)) (0 : Int32))) rfl (n := 33) rfl ?_
  refine o_lstoreN X0 hx (hb hby d_prog_28_method_5_code_33) (Ls' := #[.val (.ref a1), .val (.long (o_st (o_st (o_st (o_st (o_st (o_st (o_st (0 : Int64) (w0 &&& (255 : Int32))) (w1 &&& (255 : Int32))) (w2 &&& (255 : Int32))) (0 : Int32)) (0 : Int32)) (0 : Int32)) (0 : Int32))), .second, .val (.int (6 : Int32))]) rfl (n := 34) rfl ?_
  refine o_iinc X0 hx (hb hby d_prog_28_method_5_code_34) (w := (7 : Int32)) rfl (by decide) (Ls' := #[.val (.ref a1), .val (.long (o_st (o_st (o_st (o_st (o_st (o_st (o_st (0 : Int64) (w0 &&& (255 : Int32))) (w1 &&& (255 : Int32))) (w2 &&& (255 : Int32))) (0 : Int32)) (0 : Int32)) (0 : Int32)) (0 : Int32))), .second, .val (.int (7 : Int32))]) rfl (n := 37) rfl ?_
  refine o_goto X0 hx (hb hby d_prog_28_method_5_code_37) (by decide) (n := 4) (by decide) ?_
  refine o_iloadN X0 hx (hb hby d_prog_28_method_5_code_4) (v := (7 : Int32)) rfl (n := 5) rfl ?_
  refine o_bipush X0 hx (hb hby d_prog_28_method_5_code_5) (v := (8 : Int32)) rfl (n := 7) rfl ?_
  refine o_icmpN X0 hx (hb hby d_prog_28_method_5_code_7) (XT.ii_ge_f (by decide)) (n := 10) rfl ?_
  refine o_lloadN X0 hx (hb hby d_prog_28_method_5_code_10) (v := (o_st (o_st (o_st (o_st (o_st (o_st (o_st (0 : Int64) (w0 &&& (255 : Int32))) (w1 &&& (255 : Int32))) (w2 &&& (255 : Int32))) (0 : Int32)) (0 : Int32)) (0 : Int32)) (0 : Int32))) rfl (n := 11) rfl ?_
  refine o_bipush X0 hx (hb hby d_prog_28_method_5_code_11) (v := (8 : Int32)) rfl (n := 13) rfl ?_
  refine o_lshl X0 hx (hb hby d_prog_28_method_5_code_13) (v := ((o_st (o_st (o_st (o_st (o_st (o_st (o_st (0 : Int64) (w0 &&& (255 : Int32))) (w1 &&& (255 : Int32))) (w2 &&& (255 : Int32))) (0 : Int32)) (0 : Int32)) (0 : Int32)) (0 : Int32)) <<< (8 : Int64))) rfl (n := 14) rfl ?_
  refine o_iloadN X0 hx (hb hby d_prog_28_method_5_code_14) (v := (7 : Int32)) rfl (n := 15) rfl ?_
  refine o_aloadN X0 hx (hb hby d_prog_28_method_5_code_15) (v := (.ref a1)) rfl rfl (n := 16) rfl ?_
  refine o_arraylength X0 hx hZ e0 pV_a1 (hb hby d_prog_28_method_5_code_16) (n := 17) rfl ?_
  refine o_icmpY X0 hx (hb hby d_prog_28_method_5_code_17) (XT.ii_ge_t (by decide)) (by decide) (n := 30) (by decide) ?_
  refine o_iconst X0 hx (hb hby d_prog_28_method_5_code_30) (v := (0 : Int32)) rfl (n := 31) rfl ?_
  refine o_i2l X0 hx (hb hby d_prog_28_method_5_code_31) (v := (0 : Int64)) (by decide) (n := 32) rfl ?_
  refine o_lor X0 hx (hb hby d_prog_28_method_5_code_32) (v := (o_st (o_st (o_st (o_st (o_st (o_st (o_st (o_st (0 : Int64) (w0 &&& (255 : Int32))) (w1 &&& (255 : Int32))) (w2 &&& (255 : Int32))) (0 : Int32)) (0 : Int32)) (0 : Int32)) (0 : Int32)) (0 : Int32))) rfl (n := 33) rfl ?_
  refine o_lstoreN X0 hx (hb hby d_prog_28_method_5_code_33) (Ls' := #[.val (.ref a1), .val (.long (o_st (o_st (o_st (o_st (o_st (o_st (o_st (o_st (0 : Int64) (w0 &&& (255 : Int32))) (w1 &&& (255 : Int32))) (w2 &&& (255 : Int32))) (0 : Int32)) (0 : Int32)) (0 : Int32)) (0 : Int32)) (0 : Int32))), .second, .val (.int (7 : Int32))]) rfl (n := 34) rfl ?_
  refine o_iinc X0 hx (hb hby d_prog_28_method_5_code_34) (w := (8 : Int32)) rfl (by decide) (Ls' := #[.val (.ref a1), .val (.long (o_st (o_st (o_st (o_st (o_st (o_st (o_st (o_st (0 : Int64) (w0 &&& (255 : Int32))) (w1 &&& (255 : Int32))) (w2 &&& (255 : Int32))) (0 : Int32)) (0 : Int32)) (0 : Int32)) (0 : Int32)) (0 : Int32))), .second, .val (.int (8 : Int32))]) rfl (n := 37) rfl ?_
  refine o_goto X0 hx (hb hby d_prog_28_method_5_code_37) (by decide) (n := 4) (by decide) ?_
  refine o_iloadN X0 hx (hb hby d_prog_28_method_5_code_4) (v := (8 : Int32)) rfl (n := 5) rfl ?_
  refine o_bipush X0 hx (hb hby d_prog_28_method_5_code_5) (v := (8 : Int32)) rfl (n := 7) rfl ?_
  refine o_icmpY X0 hx (hb hby d_prog_28_method_5_code_7) (XT.ii_ge_t (by decide)) (by decide) (n := 40) (by decide) ?_
  refine o_lloadN X0 hx (hb hby d_prog_28_method_5_code_40) (v := (o_st (o_st (o_st (o_st (o_st (o_st (o_st (o_st (0 : Int64) (w0 &&& (255 : Int32))) (w1 &&& (255 : Int32))) (w2 &&& (255 : Int32))) (0 : Int32)) (0 : Int32)) (0 : Int32)) (0 : Int32)) (0 : Int32))) rfl (n := 41) rfl ?_
  exact o_lreturn X0 hx hret hlk (hb hby d_prog_28_method_5_code_41) (by decide) (by decide) e0 ⟨rfl, rfl, rfl⟩
theorem o_ef8 (m : MethodId) (p0 : Int64) : entryFrame m #[(.long p0), (.int (3 : Int32))] 3 = mkF m 0 #[.val (.long p0), .second, .val (.int (3 : Int32))] [] := by first | (simp [entryFrame, mkF, argsToLocals, Value.category]; done) | rfl
set_option maxRecDepth 65536 in
set_option maxHeartbeats 40000000 in
theorem c_exp_3 (l : Launch) (Z : State) (a0 : Array Value) (hw : ∀ d ∈ tables_1, d.before a0 Z = true) (p0 : Int64) (h0 : Heap) :
    Does l Z (⟨"com/example/variform/variform/variant/Utf8HeadPinLaw", "expected", "(JI)J"⟩ : MethodName) method_2_code 3 (some .long) [] ({ frames := 0, cells := 0, slots := 0, locals := 0 } : Room) #[(.long p0), (.int (3 : Int32))] h0 (Pur h0 (.long (p0 &&& (-1099511627776 : Int64)))) := by
  refine Does.of (plainFor_of_name o_pn1) ?_
  intro p e s m below meth c T0 hx hby hml hown hnm hret hlk hZ X0 e0
  have hown : s.vm.findClass "com/example/variform/variform/variant/Utf8HeadPinLaw" = some m.cls := hown
  have hml : c.maxLocals = 3 := hml
  have hret : meth.sig.returnType = some .long := hret
  refine o_entry (o_ef8 m p0) ?_
  refine o_iloadN X0 hx (hb hby d_method_2_code_0) (v := (3 : Int32)) rfl (n := 1) rfl ?_
  refine o_ifY X0 hx (hb hby d_method_2_code_1) (XT.i0_ne_t (by decide)) (by decide) (n := 6) (by decide) ?_
  refine o_iloadN X0 hx (hb hby d_method_2_code_6) (v := (3 : Int32)) rfl (n := 7) rfl ?_
  refine o_bipush X0 hx (hb hby d_method_2_code_7) (v := (8 : Int32)) rfl (n := 9) rfl ?_
  refine o_icmpY X0 hx (hb hby d_method_2_code_9) (XT.ii_lt_t (by decide)) (by decide) (n := 14) (by decide) ?_
  refine o_lloadN X0 hx (hb hby d_method_2_code_14) (v := p0) rfl (n := 15) rfl ?_
  refine o_ldc2_w X0 hx hZ (v := (-1 : Int64)) hown (hw _ (List.mem_of_getElem? (i := 10) rfl)) (hb hby d_method_2_code_15) (n := 18) rfl ?_
  refine o_bipush X0 hx (hb hby d_method_2_code_18) (v := (8 : Int32)) rfl (n := 20) rfl ?_
  refine o_bipush X0 hx (hb hby d_method_2_code_20) (v := (8 : Int32)) rfl (n := 22) rfl ?_
  refine o_iloadN X0 hx (hb hby d_method_2_code_22) (v := (3 : Int32)) rfl (n := 23) rfl ?_
  refine o_isub X0 hx (hb hby d_method_2_code_23) (v := (5 : Int32)) (by decide) (n := 24) rfl ?_
  refine o_imul X0 hx (hb hby d_method_2_code_24) (v := (40 : Int32)) (by decide) (n := 25) rfl ?_
  refine o_lshl X0 hx (hb hby d_method_2_code_25) (v := (-1099511627776 : Int64)) (by decide) (n := 26) rfl ?_
  refine o_land X0 hx (hb hby d_method_2_code_26) (v := (p0 &&& (-1099511627776 : Int64))) rfl (n := 27) rfl ?_
  exact o_lreturn X0 hx hret hlk (hb hby d_method_2_code_27) (by decide) (by decide) e0 ⟨rfl, rfl, rfl⟩
theorem o_ef9 (m : MethodId) (a1 : Addr) : entryFrame m #[(.ref a1)] 4 = mkF m 0 #[.val (.ref a1), .unset, .unset, .unset] [] := by first | (simp [entryFrame, mkF, argsToLocals, Value.category]; done) | rfl
set_option maxRecDepth 65536 in
set_option maxHeartbeats 40000000 in
theorem c_head_4 (l : Launch) (Z : State) (a0 : Array Value) (hw : ∀ d ∈ tables_1, d.before a0 Z = true) (a1 : Addr) (k1 : ClassId) (w0 : Int32) (w1 : Int32) (w2 : Int32) (w3 : Int32) (h0 : Heap) (pV_a1 : Arv Z h0 a1 k1 .byte (4 : Int32) [(.int w0), (.int w1), (.int w2), (.int w3)] (.int (0 : Int32))) :
    Does l Z (⟨"com/example/variform/variform/variant/Utf8", "head", "([B)J"⟩ : MethodName) prog_28_method_5_code 4 (some .long) [] ({ frames := 0, cells := 0, slots := 0, locals := 0 } : Room) #[(.ref a1)] h0 (Pur h0 (.long (o_st (o_st (o_st (o_st (o_st (o_st (o_st (o_st (0 : Int64) (w0 &&& (255 : Int32))) (w1 &&& (255 : Int32))) (w2 &&& (255 : Int32))) (w3 &&& (255 : Int32))) (0 : Int32)) (0 : Int32)) (0 : Int32)) (0 : Int32)))) := by
  refine Does.of (plainFor_of_name o_pn0) ?_
  intro p e s m below meth c T0 hx hby hml hown hnm hret hlk hZ X0 e0
  have hown : s.vm.findClass "com/example/variform/variform/variant/Utf8" = some m.cls := hown
  have hml : c.maxLocals = 4 := hml
  have hret : meth.sig.returnType = some .long := hret
  refine o_entry (o_ef9 m a1) ?_
  refine o_lconst X0 hx (hb hby d_prog_28_method_5_code_0) (v := (0 : Int64)) rfl (n := 1) rfl ?_
  refine o_lstoreN X0 hx (hb hby d_prog_28_method_5_code_1) (Ls' := #[.val (.ref a1), .val (.long (0 : Int64)), .second, .unset]) rfl (n := 2) rfl ?_
  refine o_iconst X0 hx (hb hby d_prog_28_method_5_code_2) (v := (0 : Int32)) rfl (n := 3) rfl ?_
  refine o_istoreN X0 hx (hb hby d_prog_28_method_5_code_3) (Ls' := #[.val (.ref a1), .val (.long (0 : Int64)), .second, .val (.int (0 : Int32))]) rfl (n := 4) rfl ?_
  refine o_iloadN X0 hx (hb hby d_prog_28_method_5_code_4) (v := (0 : Int32)) rfl (n := 5) rfl ?_
  refine o_bipush X0 hx (hb hby d_prog_28_method_5_code_5) (v := (8 : Int32)) rfl (n := 7) rfl ?_
  refine o_icmpN X0 hx (hb hby d_prog_28_method_5_code_7) (XT.ii_ge_f (by decide)) (n := 10) rfl ?_
  refine o_lloadN X0 hx (hb hby d_prog_28_method_5_code_10) (v := (0 : Int64)) rfl (n := 11) rfl ?_
  refine o_bipush X0 hx (hb hby d_prog_28_method_5_code_11) (v := (8 : Int32)) rfl (n := 13) rfl ?_
  refine o_lshl X0 hx (hb hby d_prog_28_method_5_code_13) (v := ((0 : Int64) <<< (8 : Int64))) rfl (n := 14) rfl ?_
  refine o_iloadN X0 hx (hb hby d_prog_28_method_5_code_14) (v := (0 : Int32)) rfl (n := 15) rfl ?_
  refine o_aloadN X0 hx (hb hby d_prog_28_method_5_code_15) (v := (.ref a1)) rfl rfl (n := 16) rfl ?_
  refine o_arraylength X0 hx hZ e0 pV_a1 (hb hby d_prog_28_method_5_code_16) (n := 17) rfl ?_
  refine o_icmpN X0 hx (hb hby d_prog_28_method_5_code_17) (XT.ii_ge_f (by decide)) (n := 20) rfl ?_
  refine o_aloadN X0 hx (hb hby d_prog_28_method_5_code_20) (v := (.ref a1)) rfl rfl (n := 21) rfl ?_
  refine o_iloadN X0 hx (hb hby d_prog_28_method_5_code_21) (v := (0 : Int32)) rfl (n := 22) rfl ?_
  refine o_baload X0 hx hZ e0 pV_a1 (0) (by decide) (by decide) (v := (.int w0)) rfl (hb hby d_prog_28_method_5_code_22) (n := 23) rfl ?_
  refine o_sipush X0 hx (hb hby d_prog_28_method_5_code_23) (v := (255 : Int32)) rfl (n := 26) rfl ?_
  refine o_iand X0 hx (hb hby d_prog_28_method_5_code_26) (v := (w0 &&& (255 : Int32))) rfl (n := 27) rfl ?_
  refine o_goto X0 hx (hb hby d_prog_28_method_5_code_27) (by decide) (n := 31) (by decide) ?_
  refine o_i2l X0 hx (hb hby d_prog_28_method_5_code_31) (v := (w0 &&& (255 : Int32)).toInt64) rfl (n := 32) rfl ?_
  refine o_lor X0 hx (hb hby d_prog_28_method_5_code_32) (v := (o_st (0 : Int64) (w0 &&& (255 : Int32)))) rfl (n := 33) rfl ?_
  refine o_lstoreN X0 hx (hb hby d_prog_28_method_5_code_33) (Ls' := #[.val (.ref a1), .val (.long (o_st (0 : Int64) (w0 &&& (255 : Int32)))), .second, .val (.int (0 : Int32))]) rfl (n := 34) rfl ?_
  refine o_iinc X0 hx (hb hby d_prog_28_method_5_code_34) (w := (1 : Int32)) rfl (by decide) (Ls' := #[.val (.ref a1), .val (.long (o_st (0 : Int64) (w0 &&& (255 : Int32)))), .second, .val (.int (1 : Int32))]) rfl (n := 37) rfl ?_
  refine o_goto X0 hx (hb hby d_prog_28_method_5_code_37) (by decide) (n := 4) (by decide) ?_
  refine o_iloadN X0 hx (hb hby d_prog_28_method_5_code_4) (v := (1 : Int32)) rfl (n := 5) rfl ?_
  refine o_bipush X0 hx (hb hby d_prog_28_method_5_code_5) (v := (8 : Int32)) rfl (n := 7) rfl ?_
  refine o_icmpN X0 hx (hb hby d_prog_28_method_5_code_7) (XT.ii_ge_f (by decide)) (n := 10) rfl ?_
  refine o_lloadN X0 hx (hb hby d_prog_28_method_5_code_10) (v := (o_st (0 : Int64) (w0 &&& (255 : Int32)))) rfl (n := 11) rfl ?_
  refine o_bipush X0 hx (hb hby d_prog_28_method_5_code_11) (v := (8 : Int32)) rfl (n := 13) rfl ?_
  refine o_lshl X0 hx (hb hby d_prog_28_method_5_code_13) (v := ((o_st (0 : Int64) (w0 &&& (255 : Int32))) <<< (8 : Int64))) rfl (n := 14) rfl ?_
  refine o_iloadN X0 hx (hb hby d_prog_28_method_5_code_14) (v := (1 : Int32)) rfl (n := 15) rfl ?_
  refine o_aloadN X0 hx (hb hby d_prog_28_method_5_code_15) (v := (.ref a1)) rfl rfl (n := 16) rfl ?_
  refine o_arraylength X0 hx hZ e0 pV_a1 (hb hby d_prog_28_method_5_code_16) (n := 17) rfl ?_
  refine o_icmpN X0 hx (hb hby d_prog_28_method_5_code_17) (XT.ii_ge_f (by decide)) (n := 20) rfl ?_
  refine o_aloadN X0 hx (hb hby d_prog_28_method_5_code_20) (v := (.ref a1)) rfl rfl (n := 21) rfl ?_
  refine o_iloadN X0 hx (hb hby d_prog_28_method_5_code_21) (v := (1 : Int32)) rfl (n := 22) rfl ?_
  refine o_baload X0 hx hZ e0 pV_a1 (1) (by decide) (by decide) (v := (.int w1)) rfl (hb hby d_prog_28_method_5_code_22) (n := 23) rfl ?_
  refine o_sipush X0 hx (hb hby d_prog_28_method_5_code_23) (v := (255 : Int32)) rfl (n := 26) rfl ?_
  refine o_iand X0 hx (hb hby d_prog_28_method_5_code_26) (v := (w1 &&& (255 : Int32))) rfl (n := 27) rfl ?_
  refine o_goto X0 hx (hb hby d_prog_28_method_5_code_27) (by decide) (n := 31) (by decide) ?_
  refine o_i2l X0 hx (hb hby d_prog_28_method_5_code_31) (v := (w1 &&& (255 : Int32)).toInt64) rfl (n := 32) rfl ?_
  refine o_lor X0 hx (hb hby d_prog_28_method_5_code_32) (v := (o_st (o_st (0 : Int64) (w0 &&& (255 : Int32))) (w1 &&& (255 : Int32)))) rfl (n := 33) rfl ?_
  refine o_lstoreN X0 hx (hb hby d_prog_28_method_5_code_33) (Ls' := #[.val (.ref a1), .val (.long (o_st (o_st (0 : Int64) (w0 &&& (255 : Int32))) (w1 &&& (255 : Int32)))), .second, .val (.int (1 : Int32))]) rfl (n := 34) rfl ?_
  refine o_iinc X0 hx (hb hby d_prog_28_method_5_code_34) (w := (2 : Int32)) rfl (by decide) (Ls' := #[.val (.ref a1), .val (.long (o_st (o_st (0 : Int64) (w0 &&& (255 : Int32))) (w1 &&& (255 : Int32)))), .second, .val (.int (2 : Int32))]) rfl (n := 37) rfl ?_
  refine o_goto X0 hx (hb hby d_prog_28_method_5_code_37) (by decide) (n := 4) (by decide) ?_
  refine o_iloadN X0 hx (hb hby d_prog_28_method_5_code_4) (v := (2 : Int32)) rfl (n := 5) rfl ?_
  refine o_bipush X0 hx (hb hby d_prog_28_method_5_code_5) (v := (8 : Int32)) rfl (n := 7) rfl ?_
  refine o_icmpN X0 hx (hb hby d_prog_28_method_5_code_7) (XT.ii_ge_f (by decide)) (n := 10) rfl ?_
  refine o_lloadN X0 hx (hb hby d_prog_28_method_5_code_10) (v := (o_st (o_st (0 : Int64) (w0 &&& (255 : Int32))) (w1 &&& (255 : Int32)))) rfl (n := 11) rfl ?_
  refine o_bipush X0 hx (hb hby d_prog_28_method_5_code_11) (v := (8 : Int32)) rfl (n := 13) rfl ?_
  refine o_lshl X0 hx (hb hby d_prog_28_method_5_code_13) (v := ((o_st (o_st (0 : Int64) (w0 &&& (255 : Int32))) (w1 &&& (255 : Int32))) <<< (8 : Int64))) rfl (n := 14) rfl ?_
  refine o_iloadN X0 hx (hb hby d_prog_28_method_5_code_14) (v := (2 : Int32)) rfl (n := 15) rfl ?_
  refine o_aloadN X0 hx (hb hby d_prog_28_method_5_code_15) (v := (.ref a1)) rfl rfl (n := 16) rfl ?_
  refine o_arraylength X0 hx hZ e0 pV_a1 (hb hby d_prog_28_method_5_code_16) (n := 17) rfl ?_
  refine o_icmpN X0 hx (hb hby d_prog_28_method_5_code_17) (XT.ii_ge_f (by decide)) (n := 20) rfl ?_
  refine o_aloadN X0 hx (hb hby d_prog_28_method_5_code_20) (v := (.ref a1)) rfl rfl (n := 21) rfl ?_
  refine o_iloadN X0 hx (hb hby d_prog_28_method_5_code_21) (v := (2 : Int32)) rfl (n := 22) rfl ?_
  refine o_baload X0 hx hZ e0 pV_a1 (2) (by decide) (by decide) (v := (.int w2)) rfl (hb hby d_prog_28_method_5_code_22) (n := 23) rfl ?_
  refine o_sipush X0 hx (hb hby d_prog_28_method_5_code_23) (v := (255 : Int32)) rfl (n := 26) rfl ?_
  refine o_iand X0 hx (hb hby d_prog_28_method_5_code_26) (v := (w2 &&& (255 : Int32))) rfl (n := 27) rfl ?_
  refine o_goto X0 hx (hb hby d_prog_28_method_5_code_27) (by decide) (n := 31) (by decide) ?_
  refine o_i2l X0 hx (hb hby d_prog_28_method_5_code_31) (v := (w2 &&& (255 : Int32)).toInt64) rfl (n := 32) rfl ?_
  refine o_lor X0 hx (hb hby d_prog_28_method_5_code_32) (v := (o_st (o_st (o_st (0 : Int64) (w0 &&& (255 : Int32))) (w1 &&& (255 : Int32))) (w2 &&& (255 : Int32)))) rfl (n := 33) rfl ?_
  refine o_lstoreN X0 hx (hb hby d_prog_28_method_5_code_33) (Ls' := #[.val (.ref a1), .val (.long (o_st (o_st (o_st (0 : Int64) (w0 &&& (255 : Int32))) (w1 &&& (255 : Int32))) (w2 &&& (255 : Int32)))), .second, .val (.int (2 : Int32))]) rfl (n := 34) rfl ?_
  refine o_iinc X0 hx (hb hby d_prog_28_method_5_code_34) (w := (3 : Int32)) rfl (by decide) (Ls' := #[.val (.ref a1), .val (.long (o_st (o_st (o_st (0 : Int64) (w0 &&& (255 : Int32))) (w1 &&& (255 : Int32))) (w2 &&& (255 : Int32)))), .second, .val (.int (3 : Int32))]) rfl (n := 37) rfl ?_
  refine o_goto X0 hx (hb hby d_prog_28_method_5_code_37) (by decide) (n := 4) (by decide) ?_
  refine o_iloadN X0 hx (hb hby d_prog_28_method_5_code_4) (v := (3 : Int32)) rfl (n := 5) rfl ?_
  refine o_bipush X0 hx (hb hby d_prog_28_method_5_code_5) (v := (8 : Int32)) rfl (n := 7) rfl ?_
  refine o_icmpN X0 hx (hb hby d_prog_28_method_5_code_7) (XT.ii_ge_f (by decide)) (n := 10) rfl ?_
  refine o_lloadN X0 hx (hb hby d_prog_28_method_5_code_10) (v := (o_st (o_st (o_st (0 : Int64) (w0 &&& (255 : Int32))) (w1 &&& (255 : Int32))) (w2 &&& (255 : Int32)))) rfl (n := 11) rfl ?_
  refine o_bipush X0 hx (hb hby d_prog_28_method_5_code_11) (v := (8 : Int32)) rfl (n := 13) rfl ?_
  refine o_lshl X0 hx (hb hby d_prog_28_method_5_code_13) (v := ((o_st (o_st (o_st (0 : Int64) (w0 &&& (255 : Int32))) (w1 &&& (255 : Int32))) (w2 &&& (255 : Int32))) <<< (8 : Int64))) rfl (n := 14) rfl ?_
  refine o_iloadN X0 hx (hb hby d_prog_28_method_5_code_14) (v := (3 : Int32)) rfl (n := 15) rfl ?_
  refine o_aloadN X0 hx (hb hby d_prog_28_method_5_code_15) (v := (.ref a1)) rfl rfl (n := 16) rfl ?_
  refine o_arraylength X0 hx hZ e0 pV_a1 (hb hby d_prog_28_method_5_code_16) (n := 17) rfl ?_
  refine o_icmpN X0 hx (hb hby d_prog_28_method_5_code_17) (XT.ii_ge_f (by decide)) (n := 20) rfl ?_
  refine o_aloadN X0 hx (hb hby d_prog_28_method_5_code_20) (v := (.ref a1)) rfl rfl (n := 21) rfl ?_
  refine o_iloadN X0 hx (hb hby d_prog_28_method_5_code_21) (v := (3 : Int32)) rfl (n := 22) rfl ?_
  refine o_baload X0 hx hZ e0 pV_a1 (3) (by decide) (by decide) (v := (.int w3)) rfl (hb hby d_prog_28_method_5_code_22) (n := 23) rfl ?_
  refine o_sipush X0 hx (hb hby d_prog_28_method_5_code_23) (v := (255 : Int32)) rfl (n := 26) rfl ?_
  refine o_iand X0 hx (hb hby d_prog_28_method_5_code_26) (v := (w3 &&& (255 : Int32))) rfl (n := 27) rfl ?_
  refine o_goto X0 hx (hb hby d_prog_28_method_5_code_27) (by decide) (n := 31) (by decide) ?_
  refine o_i2l X0 hx (hb hby d_prog_28_method_5_code_31) (v := (w3 &&& (255 : Int32)).toInt64) rfl (n := 32) rfl ?_
  refine o_lor X0 hx (hb hby d_prog_28_method_5_code_32) (v := (o_st (o_st (o_st (o_st (0 : Int64) (w0 &&& (255 : Int32))) (w1 &&& (255 : Int32))) (w2 &&& (255 : Int32))) (w3 &&& (255 : Int32)))) rfl (n := 33) rfl ?_
  refine o_lstoreN X0 hx (hb hby d_prog_28_method_5_code_33) (Ls' := #[.val (.ref a1), .val (.long (o_st (o_st (o_st (o_st (0 : Int64) (w0 &&& (255 : Int32))) (w1 &&& (255 : Int32))) (w2 &&& (255 : Int32))) (w3 &&& (255 : Int32)))), .second, .val (.int (3 : Int32))]) rfl (n := 34) rfl ?_
  refine o_iinc X0 hx (hb hby d_prog_28_method_5_code_34) (w := (4 : Int32)) rfl (by decide) (Ls' := #[.val (.ref a1), .val (.long (o_st (o_st (o_st (o_st (0 : Int64) (w0 &&& (255 : Int32))) (w1 &&& (255 : Int32))) (w2 &&& (255 : Int32))) (w3 &&& (255 : Int32)))), .second, .val (.int (4 : Int32))]) rfl (n := 37) rfl ?_
  refine o_goto X0 hx (hb hby d_prog_28_method_5_code_37) (by decide) (n := 4) (by decide) ?_
  refine o_iloadN X0 hx (hb hby d_prog_28_method_5_code_4) (v := (4 : Int32)) rfl (n := 5) rfl ?_
  refine o_bipush X0 hx (hb hby d_prog_28_method_5_code_5) (v := (8 : Int32)) rfl (n := 7) rfl ?_
  refine o_icmpN X0 hx (hb hby d_prog_28_method_5_code_7) (XT.ii_ge_f (by decide)) (n := 10) rfl ?_
  refine o_lloadN X0 hx (hb hby d_prog_28_method_5_code_10) (v := (o_st (o_st (o_st (o_st (0 : Int64) (w0 &&& (255 : Int32))) (w1 &&& (255 : Int32))) (w2 &&& (255 : Int32))) (w3 &&& (255 : Int32)))) rfl (n := 11) rfl ?_
  refine o_bipush X0 hx (hb hby d_prog_28_method_5_code_11) (v := (8 : Int32)) rfl (n := 13) rfl ?_
  refine o_lshl X0 hx (hb hby d_prog_28_method_5_code_13) (v := ((o_st (o_st (o_st (o_st (0 : Int64) (w0 &&& (255 : Int32))) (w1 &&& (255 : Int32))) (w2 &&& (255 : Int32))) (w3 &&& (255 : Int32))) <<< (8 : Int64))) rfl (n := 14) rfl ?_
  refine o_iloadN X0 hx (hb hby d_prog_28_method_5_code_14) (v := (4 : Int32)) rfl (n := 15) rfl ?_
  refine o_aloadN X0 hx (hb hby d_prog_28_method_5_code_15) (v := (.ref a1)) rfl rfl (n := 16) rfl ?_
  refine o_arraylength X0 hx hZ e0 pV_a1 (hb hby d_prog_28_method_5_code_16) (n := 17) rfl ?_
  refine o_icmpY X0 hx (hb hby d_prog_28_method_5_code_17) (XT.ii_ge_t (by decide)) (by decide) (n := 30) (by decide) ?_
  refine o_iconst X0 hx (hb hby d_prog_28_method_5_code_30) (v := (0 : Int32)) rfl (n := 31) rfl ?_
  refine o_i2l X0 hx (hb hby d_prog_28_method_5_code_31) (v := (0 : Int64)) (by decide) (n := 32) rfl ?_
  refine o_lor X0 hx (hb hby d_prog_28_method_5_code_32) (v := (o_st (o_st (o_st (o_st (o_st (0 : Int64) (w0 &&& (255 : Int32))) (w1 &&& (255 : Int32))) (w2 &&& (255 : Int32))) (w3 &&& (255 : Int32))) (0 : Int32))) rfl (n := 33) rfl ?_
  refine o_lstoreN X0 hx (hb hby d_prog_28_method_5_code_33) (Ls' := #[.val (.ref a1), .val (.long (o_st (o_st (o_st (o_st (o_st (0 : Int64) (w0 &&& (255 : Int32))) (w1 &&& (255 : Int32))) (w2 &&& (255 : Int32))) (w3 &&& (255 : Int32))) (0 : Int32))), .second, .val (.int (4 : Int32))]) rfl (n := 34) rfl ?_
  refine o_iinc X0 hx (hb hby d_prog_28_method_5_code_34) (w := (5 : Int32)) rfl (by decide) (Ls' := #[.val (.ref a1), .val (.long (o_st (o_st (o_st (o_st (o_st (0 : Int64) (w0 &&& (255 : Int32))) (w1 &&& (255 : Int32))) (w2 &&& (255 : Int32))) (w3 &&& (255 : Int32))) (0 : Int32))), .second, .val (.int (5 : Int32))]) rfl (n := 37) rfl ?_
  refine o_goto X0 hx (hb hby d_prog_28_method_5_code_37) (by decide) (n := 4) (by decide) ?_
  refine o_iloadN X0 hx (hb hby d_prog_28_method_5_code_4) (v := (5 : Int32)) rfl (n := 5) rfl ?_
  refine o_bipush X0 hx (hb hby d_prog_28_method_5_code_5) (v := (8 : Int32)) rfl (n := 7) rfl ?_
  refine o_icmpN X0 hx (hb hby d_prog_28_method_5_code_7) (XT.ii_ge_f (by decide)) (n := 10) rfl ?_
  refine o_lloadN X0 hx (hb hby d_prog_28_method_5_code_10) (v := (o_st (o_st (o_st (o_st (o_st (0 : Int64) (w0 &&& (255 : Int32))) (w1 &&& (255 : Int32))) (w2 &&& (255 : Int32))) (w3 &&& (255 : Int32))) (0 : Int32))) rfl (n := 11) rfl ?_
  refine o_bipush X0 hx (hb hby d_prog_28_method_5_code_11) (v := (8 : Int32)) rfl (n := 13) rfl ?_
  refine o_lshl X0 hx (hb hby d_prog_28_method_5_code_13) (v := ((o_st (o_st (o_st (o_st (o_st (0 : Int64) (w0 &&& (255 : Int32))) (w1 &&& (255 : Int32))) (w2 &&& (255 : Int32))) (w3 &&& (255 : Int32))) (0 : Int32)) <<< (8 : Int64))) rfl (n := 14) rfl ?_
  refine o_iloadN X0 hx (hb hby d_prog_28_method_5_code_14) (v := (5 : Int32)) rfl (n := 15) rfl ?_
  refine o_aloadN X0 hx (hb hby d_prog_28_method_5_code_15) (v := (.ref a1)) rfl rfl (n := 16) rfl ?_
  refine o_arraylength X0 hx hZ e0 pV_a1 (hb hby d_prog_28_method_5_code_16) (n := 17) rfl ?_
  refine o_icmpY X0 hx (hb hby d_prog_28_method_5_code_17) (XT.ii_ge_t (by decide)) (by decide) (n := 30) (by decide) ?_
  refine o_iconst X0 hx (hb hby d_prog_28_method_5_code_30) (v := (0 : Int32)) rfl (n := 31) rfl ?_
  refine o_i2l X0 hx (hb hby d_prog_28_method_5_code_31) (v := (0 : Int64)) (by decide) (n := 32) rfl ?_
  refine o_lor X0 hx (hb hby d_prog_28_method_5_code_32) (v := (o_st (o_st (o_st (o_st (o_st (o_st (0 : Int64) (w0 &&& (255 : Int32))) (w1 &&& (255 : Int32))) (w2 &&& (255 : Int32))) (w3 &&& (255 : Int32))) (0 : Int32)) (0 : Int32))) rfl (n := 33) rfl ?_
  refine o_lstoreN X0 hx (hb hby d_prog_28_method_5_code_33) (Ls' := #[.val (.ref a1), .val (.long (o_st (o_st (o_st (o_st (o_st (o_st (0 : Int64) (w0 &&& (255 : Int32))) (w1 &&& (255 : Int32))) (w2 &&& (255 : Int32))) (w3 &&& (255 : Int32))) (0 : Int32)) (0 : Int32))), .second, .val (.int (5 : Int32))]) rfl (n := 34) rfl ?_
  refine o_iinc X0 hx (hb hby d_prog_28_method_5_code_34) (w := (6 : Int32)) rfl (by decide) (Ls' := #[.val (.ref a1), .val (.long (o_st (o_st (o_st (o_st (o_st (o_st (0 : Int64) (w0 &&& (255 : Int32))) (w1 &&& (255 : Int32))) (w2 &&& (255 : Int32))) (w3 &&& (255 : Int32))) (0 : Int32)) (0 : Int32))), .second, .val (.int (6 : Int32))]) rfl (n := 37) rfl ?_
  refine o_goto X0 hx (hb hby d_prog_28_method_5_code_37) (by decide) (n := 4) (by decide) ?_
  refine o_iloadN X0 hx (hb hby d_prog_28_method_5_code_4) (v := (6 : Int32)) rfl (n := 5) rfl ?_
  refine o_bipush X0 hx (hb hby d_prog_28_method_5_code_5) (v := (8 : Int32)) rfl (n := 7) rfl ?_
  refine o_icmpN X0 hx (hb hby d_prog_28_method_5_code_7) (XT.ii_ge_f (by decide)) (n := 10) rfl ?_
  refine o_lloadN X0 hx (hb hby d_prog_28_method_5_code_10) (v := (o_st (o_st (o_st (o_st (o_st (o_st (0 : Int64) (w0 &&& (255 : Int32))) (w1 &&& (255 : Int32))) (w2 &&& (255 : Int32))) (w3 &&& (255 : Int32))) (0 : Int32)) (0 : Int32))) rfl (n := 11) rfl ?_
  refine o_bipush X0 hx (hb hby d_prog_28_method_5_code_11) (v := (8 : Int32)) rfl (n := 13) rfl ?_
  refine o_lshl X0 hx (hb hby d_prog_28_method_5_code_13) (v := ((o_st (o_st (o_st (o_st (o_st (o_st (0 : Int64) (w0 &&& (255 : Int32))) (w1 &&& (255 : Int32))) (w2 &&& (255 : Int32))) (w3 &&& (255 : Int32))) (0 : Int32)) (0 : Int32)) <<< (8 : Int64))) rfl (n := 14) rfl ?_
  refine o_iloadN X0 hx (hb hby d_prog_28_method_5_code_14) (v := (6 : Int32)) rfl (n := 15) rfl ?_
  refine o_aloadN X0 hx (hb hby d_prog_28_method_5_code_15) (v := (.ref a1)) rfl rfl (n := 16) rfl ?_
  refine o_arraylength X0 hx hZ e0 pV_a1 (hb hby d_prog_28_method_5_code_16) (n := 17) rfl ?_
  refine o_icmpY X0 hx (hb hby d_prog_28_method_5_code_17) (XT.ii_ge_t (by decide)) (by decide) (n := 30) (by decide) ?_
  refine o_iconst X0 hx (hb hby d_prog_28_method_5_code_30) (v := (0 : Int32)) rfl (n := 31) rfl ?_
  refine o_i2l X0 hx (hb hby d_prog_28_method_5_code_31) (v := (0 : Int64)) (by decide) (n := 32) rfl ?_
  refine o_lor X0 hx (hb hby d_prog_28_method_5_code_32) (v := (o_st (o_st (o_st (o_st (o_st (o_st (o_st (0 : Int64) (w0 &&& (255 : Int32))) (w1 &&& (255 : Int32))) (w2 &&& (255 : Int32))) (w3 &&& (255 : Int32))) (0 : Int32)) (0 : Int32)) (0 : Int32))) rfl (n := 33) rfl ?_
  refine o_lstoreN X0 hx (hb hby d_prog_28_method_5_code_33) (Ls' := #[.val (.ref a1), .val (.long (o_st (o_st (o_st (o_st (o_st (o_st (o_st (0 : Int64) (w0 &&& (255 : Int32))) (w1 &&& (255 : Int32))) (w2 &&& (255 : Int32))) (w3 &&& (255 : Int32))) (0 : Int32)) (0 : Int32)) (0 : Int32))), .second, .val (.int (6 : Int32))]) rfl (n := 34) rfl ?_
  refine o_iinc X0 hx (hb hby d_prog_28_method_5_code_34) (w := (7 : Int32)) rfl (by decide) (Ls' := #[.val (.ref a1), .val (.long (o_st (o_st (o_st (o_st (o_st (o_st (o_st (0 : Int64) (w0 &&& (255 : Int32))) (w1 &&& (255 : Int32))) (w2 &&& (255 : Int32))) (w3 &&& (255 : Int32))) (0 : Int32)) (0 : Int32)) (0 : Int32))), .second, .val (.int (7 : Int32))]) rfl (n := 37) rfl ?_
  refine o_goto X0 hx (hb hby d_prog_28_method_5_code_37) (by decide) (n := 4) (by decide) ?_
  refine o_iloadN X0 hx (hb hby d_prog_28_method_5_code_4) (v := (7 : Int32)) rfl (n := 5) rfl ?_
  refine o_bipush X0 hx (hb hby d_prog_28_method_5_code_5) (v := (8 : Int32)) rfl (n := 7) rfl ?_
  refine o_icmpN X0 hx (hb hby d_prog_28_method_5_code_7) (XT.ii_ge_f (by decide)) (n := 10) rfl ?_
  refine o_lloadN X0 hx (hb hby d_prog_28_method_5_code_10) (v := (o_st (o_st (o_st (o_st (o_st (o_st (o_st (0 : Int64) (w0 &&& (255 : Int32))) (w1 &&& (255 : Int32))) (w2 &&& (255 : Int32))) (w3 &&& (255 : Int32))) (0 : Int32)) (0 : Int32)) (0 : Int32))) rfl (n := 11) rfl ?_
  refine o_bipush X0 hx (hb hby d_prog_28_method_5_code_11) (v := (8 : Int32)) rfl (n := 13) rfl ?_
  refine o_lshl X0 hx (hb hby d_prog_28_method_5_code_13) (v := ((o_st (o_st (o_st (o_st (o_st (o_st (o_st (0 : Int64) (w0 &&& (255 : Int32))) (w1 &&& (255 : Int32))) (w2 &&& (255 : Int32))) (w3 &&& (255 : Int32))) (0 : Int32)) (0 : Int32)) (0 : Int32)) <<< (8 : Int64))) rfl (n := 14) rfl ?_
  refine o_iloadN X0 hx (hb hby d_prog_28_method_5_code_14) (v := (7 : Int32)) rfl (n := 15) rfl ?_
  refine o_aloadN X0 hx (hb hby d_prog_28_method_5_code_15) (v := (.ref a1)) rfl rfl (n := 16) rfl ?_
  refine o_arraylength X0 hx hZ e0 pV_a1 (hb hby d_prog_28_method_5_code_16) (n := 17) rfl ?_
  refine o_icmpY X0 hx (hb hby d_prog_28_method_5_code_17) (XT.ii_ge_t (by decide)) (by decide) (n := 30) (by decide) ?_
  refine o_iconst X0 hx (hb hby d_prog_28_method_5_code_30) (v := (0 : Int32)) rfl (n := 31) rfl ?_
  refine o_i2l X0 hx (hb hby d_prog_28_method_5_code_31) (v := (0 : Int64)) (by decide) (n := 32) rfl ?_
  refine o_lor X0 hx (hb hby d_prog_28_method_5_code_32) (v := (o_st (o_st (o_st (o_st (o_st (o_st (o_st (o_st (0 : Int64) (w0 &&& (255 : Int32))) (w1 &&& (255 : Int32))) (w2 &&& (255 : Int32))) (w3 &&& (255 : Int32))) (0 : Int32)) (0 : Int32)) (0 : Int32)) (0 : Int32))) rfl (n := 33) rfl ?_
  refine o_lstoreN X0 hx (hb hby d_prog_28_method_5_code_33) (Ls' := #[.val (.ref a1), .val (.long (o_st (o_st (o_st (o_st (o_st (o_st (o_st (o_st (0 : Int64) (w0 &&& (255 : Int32))) (w1 &&& (255 : Int32))) (w2 &&& (255 : Int32))) (w3 &&& (255 : Int32))) (0 : Int32)) (0 : Int32)) (0 : Int32)) (0 : Int32))), .second, .val (.int (7 : Int32))]) rfl (n := 34) rfl ?_
  refine o_iinc X0 hx (hb hby d_prog_28_method_5_code_34) (w := (8 : Int32)) rfl (by decide) (Ls' := #[.val (.ref a1), .val (.long (o_st (o_st (o_st (o_st (o_st (o_st (o_st (o_st (0 : Int64) (w0 &&& (255 : Int32))) (w1 &&& (255 : Int32))) (w2 &&& (255 : Int32))) (w3 &&& (255 : Int32))) (0 : Int32)) (0 : Int32)) (0 : Int32)) (0 : Int32))), .second, .val (.int (8 : Int32))]) rfl (n := 37) rfl ?_
  refine o_goto X0 hx (hb hby d_prog_28_method_5_code_37) (by decide) (n := 4) (by decide) ?_
  refine o_iloadN X0 hx (hb hby d_prog_28_method_5_code_4) (v := (8 : Int32)) rfl (n := 5) rfl ?_
  refine o_bipush X0 hx (hb hby d_prog_28_method_5_code_5) (v := (8 : Int32)) rfl (n := 7) rfl ?_
  refine o_icmpY X0 hx (hb hby d_prog_28_method_5_code_7) (XT.ii_ge_t (by decide)) (by decide) (n := 40) (by decide) ?_
  refine o_lloadN X0 hx (hb hby d_prog_28_method_5_code_40) (v := (o_st (o_st (o_st (o_st (o_st (o_st (o_st (o_st (0 : Int64) (w0 &&& (255 : Int32))) (w1 &&& (255 : Int32))) (w2 &&& (255 : Int32))) (w3 &&& (255 : Int32))) (0 : Int32)) (0 : Int32)) (0 : Int32)) (0 : Int32))) rfl (n := 41) rfl ?_
  exact o_lreturn X0 hx hret hlk (hb hby d_prog_28_method_5_code_41) (by decide) (by decide) e0 ⟨rfl, rfl, rfl⟩
theorem o_ef10 (m : MethodId) (p0 : Int64) : entryFrame m #[(.long p0), (.int (4 : Int32))] 3 = mkF m 0 #[.val (.long p0), .second, .val (.int (4 : Int32))] [] := by first | (simp [entryFrame, mkF, argsToLocals, Value.category]; done) | rfl
set_option maxRecDepth 65536 in
set_option maxHeartbeats 40000000 in
theorem c_exp_4 (l : Launch) (Z : State) (a0 : Array Value) (hw : ∀ d ∈ tables_1, d.before a0 Z = true) (p0 : Int64) (h0 : Heap) :
    Does l Z (⟨"com/example/variform/variform/variant/Utf8HeadPinLaw", "expected", "(JI)J"⟩ : MethodName) method_2_code 3 (some .long) [] ({ frames := 0, cells := 0, slots := 0, locals := 0 } : Room) #[(.long p0), (.int (4 : Int32))] h0 (Pur h0 (.long (p0 &&& (-4294967296 : Int64)))) := by
  refine Does.of (plainFor_of_name o_pn1) ?_
  intro p e s m below meth c T0 hx hby hml hown hnm hret hlk hZ X0 e0
  have hown : s.vm.findClass "com/example/variform/variform/variant/Utf8HeadPinLaw" = some m.cls := hown
  have hml : c.maxLocals = 3 := hml
  have hret : meth.sig.returnType = some .long := hret
  refine o_entry (o_ef10 m p0) ?_
  refine o_iloadN X0 hx (hb hby d_method_2_code_0) (v := (4 : Int32)) rfl (n := 1) rfl ?_
  refine o_ifY X0 hx (hb hby d_method_2_code_1) (XT.i0_ne_t (by decide)) (by decide) (n := 6) (by decide) ?_
  refine o_iloadN X0 hx (hb hby d_method_2_code_6) (v := (4 : Int32)) rfl (n := 7) rfl ?_
  refine o_bipush X0 hx (hb hby d_method_2_code_7) (v := (8 : Int32)) rfl (n := 9) rfl ?_
  refine o_icmpY X0 hx (hb hby d_method_2_code_9) (XT.ii_lt_t (by decide)) (by decide) (n := 14) (by decide) ?_
  refine o_lloadN X0 hx (hb hby d_method_2_code_14) (v := p0) rfl (n := 15) rfl ?_
  refine o_ldc2_w X0 hx hZ (v := (-1 : Int64)) hown (hw _ (List.mem_of_getElem? (i := 10) rfl)) (hb hby d_method_2_code_15) (n := 18) rfl ?_
  refine o_bipush X0 hx (hb hby d_method_2_code_18) (v := (8 : Int32)) rfl (n := 20) rfl ?_
  refine o_bipush X0 hx (hb hby d_method_2_code_20) (v := (8 : Int32)) rfl (n := 22) rfl ?_
  refine o_iloadN X0 hx (hb hby d_method_2_code_22) (v := (4 : Int32)) rfl (n := 23) rfl ?_
  refine o_isub X0 hx (hb hby d_method_2_code_23) (v := (4 : Int32)) (by decide) (n := 24) rfl ?_
  refine o_imul X0 hx (hb hby d_method_2_code_24) (v := (32 : Int32)) (by decide) (n := 25) rfl ?_
  refine o_lshl X0 hx (hb hby d_method_2_code_25) (v := (-4294967296 : Int64)) (by decide) (n := 26) rfl ?_
  refine o_land X0 hx (hb hby d_method_2_code_26) (v := (p0 &&& (-4294967296 : Int64))) rfl (n := 27) rfl ?_
  exact o_lreturn X0 hx hret hlk (hb hby d_method_2_code_27) (by decide) (by decide) e0 ⟨rfl, rfl, rfl⟩
theorem o_ef11 (m : MethodId) (a1 : Addr) : entryFrame m #[(.ref a1)] 4 = mkF m 0 #[.val (.ref a1), .unset, .unset, .unset] [] := by first | (simp [entryFrame, mkF, argsToLocals, Value.category]; done) | rfl
set_option maxRecDepth 65536 in
set_option maxHeartbeats 40000000 in
theorem c_head_5 (l : Launch) (Z : State) (a0 : Array Value) (hw : ∀ d ∈ tables_1, d.before a0 Z = true) (a1 : Addr) (k1 : ClassId) (w0 : Int32) (w1 : Int32) (w2 : Int32) (w3 : Int32) (w4 : Int32) (h0 : Heap) (pV_a1 : Arv Z h0 a1 k1 .byte (5 : Int32) [(.int w0), (.int w1), (.int w2), (.int w3), (.int w4)] (.int (0 : Int32))) :
    Does l Z (⟨"com/example/variform/variform/variant/Utf8", "head", "([B)J"⟩ : MethodName) prog_28_method_5_code 4 (some .long) [] ({ frames := 0, cells := 0, slots := 0, locals := 0 } : Room) #[(.ref a1)] h0 (Pur h0 (.long (o_st (o_st (o_st (o_st (o_st (o_st (o_st (o_st (0 : Int64) (w0 &&& (255 : Int32))) (w1 &&& (255 : Int32))) (w2 &&& (255 : Int32))) (w3 &&& (255 : Int32))) (w4 &&& (255 : Int32))) (0 : Int32)) (0 : Int32)) (0 : Int32)))) := by
  refine Does.of (plainFor_of_name o_pn0) ?_
  intro p e s m below meth c T0 hx hby hml hown hnm hret hlk hZ X0 e0
  have hown : s.vm.findClass "com/example/variform/variform/variant/Utf8" = some m.cls := hown
  have hml : c.maxLocals = 4 := hml
  have hret : meth.sig.returnType = some .long := hret
  refine o_entry (o_ef11 m a1) ?_
  refine o_lconst X0 hx (hb hby d_prog_28_method_5_code_0) (v := (0 : Int64)) rfl (n := 1) rfl ?_
  refine o_lstoreN X0 hx (hb hby d_prog_28_method_5_code_1) (Ls' := #[.val (.ref a1), .val (.long (0 : Int64)), .second, .unset]) rfl (n := 2) rfl ?_
  refine o_iconst X0 hx (hb hby d_prog_28_method_5_code_2) (v := (0 : Int32)) rfl (n := 3) rfl ?_
  refine o_istoreN X0 hx (hb hby d_prog_28_method_5_code_3) (Ls' := #[.val (.ref a1), .val (.long (0 : Int64)), .second, .val (.int (0 : Int32))]) rfl (n := 4) rfl ?_
  refine o_iloadN X0 hx (hb hby d_prog_28_method_5_code_4) (v := (0 : Int32)) rfl (n := 5) rfl ?_
  refine o_bipush X0 hx (hb hby d_prog_28_method_5_code_5) (v := (8 : Int32)) rfl (n := 7) rfl ?_
  refine o_icmpN X0 hx (hb hby d_prog_28_method_5_code_7) (XT.ii_ge_f (by decide)) (n := 10) rfl ?_
  refine o_lloadN X0 hx (hb hby d_prog_28_method_5_code_10) (v := (0 : Int64)) rfl (n := 11) rfl ?_
  refine o_bipush X0 hx (hb hby d_prog_28_method_5_code_11) (v := (8 : Int32)) rfl (n := 13) rfl ?_
  refine o_lshl X0 hx (hb hby d_prog_28_method_5_code_13) (v := ((0 : Int64) <<< (8 : Int64))) rfl (n := 14) rfl ?_
  refine o_iloadN X0 hx (hb hby d_prog_28_method_5_code_14) (v := (0 : Int32)) rfl (n := 15) rfl ?_
  refine o_aloadN X0 hx (hb hby d_prog_28_method_5_code_15) (v := (.ref a1)) rfl rfl (n := 16) rfl ?_
  refine o_arraylength X0 hx hZ e0 pV_a1 (hb hby d_prog_28_method_5_code_16) (n := 17) rfl ?_
  refine o_icmpN X0 hx (hb hby d_prog_28_method_5_code_17) (XT.ii_ge_f (by decide)) (n := 20) rfl ?_
  refine o_aloadN X0 hx (hb hby d_prog_28_method_5_code_20) (v := (.ref a1)) rfl rfl (n := 21) rfl ?_
  refine o_iloadN X0 hx (hb hby d_prog_28_method_5_code_21) (v := (0 : Int32)) rfl (n := 22) rfl ?_
  refine o_baload X0 hx hZ e0 pV_a1 (0) (by decide) (by decide) (v := (.int w0)) rfl (hb hby d_prog_28_method_5_code_22) (n := 23) rfl ?_
  refine o_sipush X0 hx (hb hby d_prog_28_method_5_code_23) (v := (255 : Int32)) rfl (n := 26) rfl ?_
  refine o_iand X0 hx (hb hby d_prog_28_method_5_code_26) (v := (w0 &&& (255 : Int32))) rfl (n := 27) rfl ?_
  refine o_goto X0 hx (hb hby d_prog_28_method_5_code_27) (by decide) (n := 31) (by decide) ?_
  refine o_i2l X0 hx (hb hby d_prog_28_method_5_code_31) (v := (w0 &&& (255 : Int32)).toInt64) rfl (n := 32) rfl ?_
  refine o_lor X0 hx (hb hby d_prog_28_method_5_code_32) (v := (o_st (0 : Int64) (w0 &&& (255 : Int32)))) rfl (n := 33) rfl ?_
  refine o_lstoreN X0 hx (hb hby d_prog_28_method_5_code_33) (Ls' := #[.val (.ref a1), .val (.long (o_st (0 : Int64) (w0 &&& (255 : Int32)))), .second, .val (.int (0 : Int32))]) rfl (n := 34) rfl ?_
  refine o_iinc X0 hx (hb hby d_prog_28_method_5_code_34) (w := (1 : Int32)) rfl (by decide) (Ls' := #[.val (.ref a1), .val (.long (o_st (0 : Int64) (w0 &&& (255 : Int32)))), .second, .val (.int (1 : Int32))]) rfl (n := 37) rfl ?_
  refine o_goto X0 hx (hb hby d_prog_28_method_5_code_37) (by decide) (n := 4) (by decide) ?_
  refine o_iloadN X0 hx (hb hby d_prog_28_method_5_code_4) (v := (1 : Int32)) rfl (n := 5) rfl ?_
  refine o_bipush X0 hx (hb hby d_prog_28_method_5_code_5) (v := (8 : Int32)) rfl (n := 7) rfl ?_
  refine o_icmpN X0 hx (hb hby d_prog_28_method_5_code_7) (XT.ii_ge_f (by decide)) (n := 10) rfl ?_
  refine o_lloadN X0 hx (hb hby d_prog_28_method_5_code_10) (v := (o_st (0 : Int64) (w0 &&& (255 : Int32)))) rfl (n := 11) rfl ?_
  refine o_bipush X0 hx (hb hby d_prog_28_method_5_code_11) (v := (8 : Int32)) rfl (n := 13) rfl ?_
  refine o_lshl X0 hx (hb hby d_prog_28_method_5_code_13) (v := ((o_st (0 : Int64) (w0 &&& (255 : Int32))) <<< (8 : Int64))) rfl (n := 14) rfl ?_
  refine o_iloadN X0 hx (hb hby d_prog_28_method_5_code_14) (v := (1 : Int32)) rfl (n := 15) rfl ?_
  refine o_aloadN X0 hx (hb hby d_prog_28_method_5_code_15) (v := (.ref a1)) rfl rfl (n := 16) rfl ?_
  refine o_arraylength X0 hx hZ e0 pV_a1 (hb hby d_prog_28_method_5_code_16) (n := 17) rfl ?_
  refine o_icmpN X0 hx (hb hby d_prog_28_method_5_code_17) (XT.ii_ge_f (by decide)) (n := 20) rfl ?_
  refine o_aloadN X0 hx (hb hby d_prog_28_method_5_code_20) (v := (.ref a1)) rfl rfl (n := 21) rfl ?_
  refine o_iloadN X0 hx (hb hby d_prog_28_method_5_code_21) (v := (1 : Int32)) rfl (n := 22) rfl ?_
  refine o_baload X0 hx hZ e0 pV_a1 (1) (by decide) (by decide) (v := (.int w1)) rfl (hb hby d_prog_28_method_5_code_22) (n := 23) rfl ?_
  refine o_sipush X0 hx (hb hby d_prog_28_method_5_code_23) (v := (255 : Int32)) rfl (n := 26) rfl ?_
  refine o_iand X0 hx (hb hby d_prog_28_method_5_code_26) (v := (w1 &&& (255 : Int32))) rfl (n := 27) rfl ?_
  refine o_goto X0 hx (hb hby d_prog_28_method_5_code_27) (by decide) (n := 31) (by decide) ?_
  refine o_i2l X0 hx (hb hby d_prog_28_method_5_code_31) (v := (w1 &&& (255 : Int32)).toInt64) rfl (n := 32) rfl ?_
  refine o_lor X0 hx (hb hby d_prog_28_method_5_code_32) (v := (o_st (o_st (0 : Int64) (w0 &&& (255 : Int32))) (w1 &&& (255 : Int32)))) rfl (n := 33) rfl ?_
  refine o_lstoreN X0 hx (hb hby d_prog_28_method_5_code_33) (Ls' := #[.val (.ref a1), .val (.long (o_st (o_st (0 : Int64) (w0 &&& (255 : Int32))) (w1 &&& (255 : Int32)))), .second, .val (.int (1 : Int32))]) rfl (n := 34) rfl ?_
  refine o_iinc X0 hx (hb hby d_prog_28_method_5_code_34) (w := (2 : Int32)) rfl (by decide) (Ls' := #[.val (.ref a1), .val (.long (o_st (o_st (0 : Int64) (w0 &&& (255 : Int32))) (w1 &&& (255 : Int32)))), .second, .val (.int (2 : Int32))]) rfl (n := 37) rfl ?_
  refine o_goto X0 hx (hb hby d_prog_28_method_5_code_37) (by decide) (n := 4) (by decide) ?_
  refine o_iloadN X0 hx (hb hby d_prog_28_method_5_code_4) (v := (2 : Int32)) rfl (n := 5) rfl ?_
  refine o_bipush X0 hx (hb hby d_prog_28_method_5_code_5) (v := (8 : Int32)) rfl (n := 7) rfl ?_
  refine o_icmpN X0 hx (hb hby d_prog_28_method_5_code_7) (XT.ii_ge_f (by decide)) (n := 10) rfl ?_
  refine o_lloadN X0 hx (hb hby d_prog_28_method_5_code_10) (v := (o_st (o_st (0 : Int64) (w0 &&& (255 : Int32))) (w1 &&& (255 : Int32)))) rfl (n := 11) rfl ?_
  refine o_bipush X0 hx (hb hby d_prog_28_method_5_code_11) (v := (8 : Int32)) rfl (n := 13) rfl ?_
  refine o_lshl X0 hx (hb hby d_prog_28_method_5_code_13) (v := ((o_st (o_st (0 : Int64) (w0 &&& (255 : Int32))) (w1 &&& (255 : Int32))) <<< (8 : Int64))) rfl (n := 14) rfl ?_
  refine o_iloadN X0 hx (hb hby d_prog_28_method_5_code_14) (v := (2 : Int32)) rfl (n := 15) rfl ?_
  refine o_aloadN X0 hx (hb hby d_prog_28_method_5_code_15) (v := (.ref a1)) rfl rfl (n := 16) rfl ?_
  refine o_arraylength X0 hx hZ e0 pV_a1 (hb hby d_prog_28_method_5_code_16) (n := 17) rfl ?_
  refine o_icmpN X0 hx (hb hby d_prog_28_method_5_code_17) (XT.ii_ge_f (by decide)) (n := 20) rfl ?_
  refine o_aloadN X0 hx (hb hby d_prog_28_method_5_code_20) (v := (.ref a1)) rfl rfl (n := 21) rfl ?_
  refine o_iloadN X0 hx (hb hby d_prog_28_method_5_code_21) (v := (2 : Int32)) rfl (n := 22) rfl ?_
  refine o_baload X0 hx hZ e0 pV_a1 (2) (by decide) (by decide) (v := (.int w2)) rfl (hb hby d_prog_28_method_5_code_22) (n := 23) rfl ?_
  refine o_sipush X0 hx (hb hby d_prog_28_method_5_code_23) (v := (255 : Int32)) rfl (n := 26) rfl ?_
  refine o_iand X0 hx (hb hby d_prog_28_method_5_code_26) (v := (w2 &&& (255 : Int32))) rfl (n := 27) rfl ?_
  refine o_goto X0 hx (hb hby d_prog_28_method_5_code_27) (by decide) (n := 31) (by decide) ?_
  refine o_i2l X0 hx (hb hby d_prog_28_method_5_code_31) (v := (w2 &&& (255 : Int32)).toInt64) rfl (n := 32) rfl ?_
  refine o_lor X0 hx (hb hby d_prog_28_method_5_code_32) (v := (o_st (o_st (o_st (0 : Int64) (w0 &&& (255 : Int32))) (w1 &&& (255 : Int32))) (w2 &&& (255 : Int32)))) rfl (n := 33) rfl ?_
  refine o_lstoreN X0 hx (hb hby d_prog_28_method_5_code_33) (Ls' := #[.val (.ref a1), .val (.long (o_st (o_st (o_st (0 : Int64) (w0 &&& (255 : Int32))) (w1 &&& (255 : Int32))) (w2 &&& (255 : Int32)))), .second, .val (.int (2 : Int32))]) rfl (n := 34) rfl ?_
  refine o_iinc X0 hx (hb hby d_prog_28_method_5_code_34) (w := (3 : Int32)) rfl (by decide) (Ls' := #[.val (.ref a1), .val (.long (o_st (o_st (o_st (0 : Int64) (w0 &&& (255 : Int32))) (w1 &&& (255 : Int32))) (w2 &&& (255 : Int32)))), .second, .val (.int (3 : Int32))]) rfl (n := 37) rfl ?_
  refine o_goto X0 hx (hb hby d_prog_28_method_5_code_37) (by decide) (n := 4) (by decide) ?_
  refine o_iloadN X0 hx (hb hby d_prog_28_method_5_code_4) (v := (3 : Int32)) rfl (n := 5) rfl ?_
  refine o_bipush X0 hx (hb hby d_prog_28_method_5_code_5) (v := (8 : Int32)) rfl (n := 7) rfl ?_
  refine o_icmpN X0 hx (hb hby d_prog_28_method_5_code_7) (XT.ii_ge_f (by decide)) (n := 10) rfl ?_
  refine o_lloadN X0 hx (hb hby d_prog_28_method_5_code_10) (v := (o_st (o_st (o_st (0 : Int64) (w0 &&& (255 : Int32))) (w1 &&& (255 : Int32))) (w2 &&& (255 : Int32)))) rfl (n := 11) rfl ?_
  refine o_bipush X0 hx (hb hby d_prog_28_method_5_code_11) (v := (8 : Int32)) rfl (n := 13) rfl ?_
  refine o_lshl X0 hx (hb hby d_prog_28_method_5_code_13) (v := ((o_st (o_st (o_st (0 : Int64) (w0 &&& (255 : Int32))) (w1 &&& (255 : Int32))) (w2 &&& (255 : Int32))) <<< (8 : Int64))) rfl (n := 14) rfl ?_
  refine o_iloadN X0 hx (hb hby d_prog_28_method_5_code_14) (v := (3 : Int32)) rfl (n := 15) rfl ?_
  refine o_aloadN X0 hx (hb hby d_prog_28_method_5_code_15) (v := (.ref a1)) rfl rfl (n := 16) rfl ?_
  refine o_arraylength X0 hx hZ e0 pV_a1 (hb hby d_prog_28_method_5_code_16) (n := 17) rfl ?_
  refine o_icmpN X0 hx (hb hby d_prog_28_method_5_code_17) (XT.ii_ge_f (by decide)) (n := 20) rfl ?_
  refine o_aloadN X0 hx (hb hby d_prog_28_method_5_code_20) (v := (.ref a1)) rfl rfl (n := 21) rfl ?_
  refine o_iloadN X0 hx (hb hby d_prog_28_method_5_code_21) (v := (3 : Int32)) rfl (n := 22) rfl ?_
  refine o_baload X0 hx hZ e0 pV_a1 (3) (by decide) (by decide) (v := (.int w3)) rfl (hb hby d_prog_28_method_5_code_22) (n := 23) rfl ?_
  refine o_sipush X0 hx (hb hby d_prog_28_method_5_code_23) (v := (255 : Int32)) rfl (n := 26) rfl ?_
  refine o_iand X0 hx (hb hby d_prog_28_method_5_code_26) (v := (w3 &&& (255 : Int32))) rfl (n := 27) rfl ?_
  refine o_goto X0 hx (hb hby d_prog_28_method_5_code_27) (by decide) (n := 31) (by decide) ?_
  refine o_i2l X0 hx (hb hby d_prog_28_method_5_code_31) (v := (w3 &&& (255 : Int32)).toInt64) rfl (n := 32) rfl ?_
  refine o_lor X0 hx (hb hby d_prog_28_method_5_code_32) (v := (o_st (o_st (o_st (o_st (0 : Int64) (w0 &&& (255 : Int32))) (w1 &&& (255 : Int32))) (w2 &&& (255 : Int32))) (w3 &&& (255 : Int32)))) rfl (n := 33) rfl ?_
  refine o_lstoreN X0 hx (hb hby d_prog_28_method_5_code_33) (Ls' := #[.val (.ref a1), .val (.long (o_st (o_st (o_st (o_st (0 : Int64) (w0 &&& (255 : Int32))) (w1 &&& (255 : Int32))) (w2 &&& (255 : Int32))) (w3 &&& (255 : Int32)))), .second, .val (.int (3 : Int32))]) rfl (n := 34) rfl ?_
  refine o_iinc X0 hx (hb hby d_prog_28_method_5_code_34) (w := (4 : Int32)) rfl (by decide) (Ls' := #[.val (.ref a1), .val (.long (o_st (o_st (o_st (o_st (0 : Int64) (w0 &&& (255 : Int32))) (w1 &&& (255 : Int32))) (w2 &&& (255 : Int32))) (w3 &&& (255 : Int32)))), .second, .val (.int (4 : Int32))]) rfl (n := 37) rfl ?_
  refine o_goto X0 hx (hb hby d_prog_28_method_5_code_37) (by decide) (n := 4) (by decide) ?_
  refine o_iloadN X0 hx (hb hby d_prog_28_method_5_code_4) (v := (4 : Int32)) rfl (n := 5) rfl ?_
  refine o_bipush X0 hx (hb hby d_prog_28_method_5_code_5) (v := (8 : Int32)) rfl (n := 7) rfl ?_
  refine o_icmpN X0 hx (hb hby d_prog_28_method_5_code_7) (XT.ii_ge_f (by decide)) (n := 10) rfl ?_
  refine o_lloadN X0 hx (hb hby d_prog_28_method_5_code_10) (v := (o_st (o_st (o_st (o_st (0 : Int64) (w0 &&& (255 : Int32))) (w1 &&& (255 : Int32))) (w2 &&& (255 : Int32))) (w3 &&& (255 : Int32)))) rfl (n := 11) rfl ?_
  refine o_bipush X0 hx (hb hby d_prog_28_method_5_code_11) (v := (8 : Int32)) rfl (n := 13) rfl ?_
  refine o_lshl X0 hx (hb hby d_prog_28_method_5_code_13) (v := ((o_st (o_st (o_st (o_st (0 : Int64) (w0 &&& (255 : Int32))) (w1 &&& (255 : Int32))) (w2 &&& (255 : Int32))) (w3 &&& (255 : Int32))) <<< (8 : Int64))) rfl (n := 14) rfl ?_
  refine o_iloadN X0 hx (hb hby d_prog_28_method_5_code_14) (v := (4 : Int32)) rfl (n := 15) rfl ?_
  refine o_aloadN X0 hx (hb hby d_prog_28_method_5_code_15) (v := (.ref a1)) rfl rfl (n := 16) rfl ?_
  refine o_arraylength X0 hx hZ e0 pV_a1 (hb hby d_prog_28_method_5_code_16) (n := 17) rfl ?_
  refine o_icmpN X0 hx (hb hby d_prog_28_method_5_code_17) (XT.ii_ge_f (by decide)) (n := 20) rfl ?_
  refine o_aloadN X0 hx (hb hby d_prog_28_method_5_code_20) (v := (.ref a1)) rfl rfl (n := 21) rfl ?_
  refine o_iloadN X0 hx (hb hby d_prog_28_method_5_code_21) (v := (4 : Int32)) rfl (n := 22) rfl ?_
  refine o_baload X0 hx hZ e0 pV_a1 (4) (by decide) (by decide) (v := (.int w4)) rfl (hb hby d_prog_28_method_5_code_22) (n := 23) rfl ?_
  refine o_sipush X0 hx (hb hby d_prog_28_method_5_code_23) (v := (255 : Int32)) rfl (n := 26) rfl ?_
  refine o_iand X0 hx (hb hby d_prog_28_method_5_code_26) (v := (w4 &&& (255 : Int32))) rfl (n := 27) rfl ?_
  refine o_goto X0 hx (hb hby d_prog_28_method_5_code_27) (by decide) (n := 31) (by decide) ?_
  refine o_i2l X0 hx (hb hby d_prog_28_method_5_code_31) (v := (w4 &&& (255 : Int32)).toInt64) rfl (n := 32) rfl ?_
  refine o_lor X0 hx (hb hby d_prog_28_method_5_code_32) (v := (o_st (o_st (o_st (o_st (o_st (0 : Int64) (w0 &&& (255 : Int32))) (w1 &&& (255 : Int32))) (w2 &&& (255 : Int32))) (w3 &&& (255 : Int32))) (w4 &&& (255 : Int32)))) rfl (n := 33) rfl ?_
  refine o_lstoreN X0 hx (hb hby d_prog_28_method_5_code_33) (Ls' := #[.val (.ref a1), .val (.long (o_st (o_st (o_st (o_st (o_st (0 : Int64) (w0 &&& (255 : Int32))) (w1 &&& (255 : Int32))) (w2 &&& (255 : Int32))) (w3 &&& (255 : Int32))) (w4 &&& (255 : Int32)))), .second, .val (.int (4 : Int32))]) rfl (n := 34) rfl ?_
  refine o_iinc X0 hx (hb hby d_prog_28_method_5_code_34) (w := (5 : Int32)) rfl (by decide) (Ls' := #[.val (.ref a1), .val (.long (o_st (o_st (o_st (o_st (o_st (0 : Int64) (w0 &&& (255 : Int32))) (w1 &&& (255 : Int32))) (w2 &&& (255 : Int32))) (w3 &&& (255 : Int32))) (w4 &&& (255 : Int32)))), .second, .val (.int (5 : Int32))]) rfl (n := 37) rfl ?_
  refine o_goto X0 hx (hb hby d_prog_28_method_5_code_37) (by decide) (n := 4) (by decide) ?_
  refine o_iloadN X0 hx (hb hby d_prog_28_method_5_code_4) (v := (5 : Int32)) rfl (n := 5) rfl ?_
  refine o_bipush X0 hx (hb hby d_prog_28_method_5_code_5) (v := (8 : Int32)) rfl (n := 7) rfl ?_
  refine o_icmpN X0 hx (hb hby d_prog_28_method_5_code_7) (XT.ii_ge_f (by decide)) (n := 10) rfl ?_
  refine o_lloadN X0 hx (hb hby d_prog_28_method_5_code_10) (v := (o_st (o_st (o_st (o_st (o_st (0 : Int64) (w0 &&& (255 : Int32))) (w1 &&& (255 : Int32))) (w2 &&& (255 : Int32))) (w3 &&& (255 : Int32))) (w4 &&& (255 : Int32)))) rfl (n := 11) rfl ?_
  refine o_bipush X0 hx (hb hby d_prog_28_method_5_code_11) (v := (8 : Int32)) rfl (n := 13) rfl ?_
  refine o_lshl X0 hx (hb hby d_prog_28_method_5_code_13) (v := ((o_st (o_st (o_st (o_st (o_st (0 : Int64) (w0 &&& (255 : Int32))) (w1 &&& (255 : Int32))) (w2 &&& (255 : Int32))) (w3 &&& (255 : Int32))) (w4 &&& (255 : Int32))) <<< (8 : Int64))) rfl (n := 14) rfl ?_
  refine o_iloadN X0 hx (hb hby d_prog_28_method_5_code_14) (v := (5 : Int32)) rfl (n := 15) rfl ?_
  refine o_aloadN X0 hx (hb hby d_prog_28_method_5_code_15) (v := (.ref a1)) rfl rfl (n := 16) rfl ?_
  refine o_arraylength X0 hx hZ e0 pV_a1 (hb hby d_prog_28_method_5_code_16) (n := 17) rfl ?_
  refine o_icmpY X0 hx (hb hby d_prog_28_method_5_code_17) (XT.ii_ge_t (by decide)) (by decide) (n := 30) (by decide) ?_
  refine o_iconst X0 hx (hb hby d_prog_28_method_5_code_30) (v := (0 : Int32)) rfl (n := 31) rfl ?_
  refine o_i2l X0 hx (hb hby d_prog_28_method_5_code_31) (v := (0 : Int64)) (by decide) (n := 32) rfl ?_
  refine o_lor X0 hx (hb hby d_prog_28_method_5_code_32) (v := (o_st (o_st (o_st (o_st (o_st (o_st (0 : Int64) (w0 &&& (255 : Int32))) (w1 &&& (255 : Int32))) (w2 &&& (255 : Int32))) (w3 &&& (255 : Int32))) (w4 &&& (255 : Int32))) (0 : Int32))) rfl (n := 33) rfl ?_
  refine o_lstoreN X0 hx (hb hby d_prog_28_method_5_code_33) (Ls' := #[.val (.ref a1), .val (.long (o_st (o_st (o_st (o_st (o_st (o_st (0 : Int64) (w0 &&& (255 : Int32))) (w1 &&& (255 : Int32))) (w2 &&& (255 : Int32))) (w3 &&& (255 : Int32))) (w4 &&& (255 : Int32))) (0 : Int32))), .second, .val (.int (5 : Int32))]) rfl (n := 34) rfl ?_
  refine o_iinc X0 hx (hb hby d_prog_28_method_5_code_34) (w := (6 : Int32)) rfl (by decide) (Ls' := #[.val (.ref a1), .val (.long (o_st (o_st (o_st (o_st (o_st (o_st (0 : Int64) (w0 &&& (255 : Int32))) (w1 &&& (255 : Int32))) (w2 &&& (255 : Int32))) (w3 &&& (255 : Int32))) (w4 &&& (255 : Int32))) (0 : Int32))), .second, .val (.int (6 : Int32))]) rfl (n := 37) rfl ?_
  refine o_goto X0 hx (hb hby d_prog_28_method_5_code_37) (by decide) (n := 4) (by decide) ?_
  refine o_iloadN X0 hx (hb hby d_prog_28_method_5_code_4) (v := (6 : Int32)) rfl (n := 5) rfl ?_
  refine o_bipush X0 hx (hb hby d_prog_28_method_5_code_5) (v := (8 : Int32)) rfl (n := 7) rfl ?_
  refine o_icmpN X0 hx (hb hby d_prog_28_method_5_code_7) (XT.ii_ge_f (by decide)) (n := 10) rfl ?_
  refine o_lloadN X0 hx (hb hby d_prog_28_method_5_code_10) (v := (o_st (o_st (o_st (o_st (o_st (o_st (0 : Int64) (w0 &&& (255 : Int32))) (w1 &&& (255 : Int32))) (w2 &&& (255 : Int32))) (w3 &&& (255 : Int32))) (w4 &&& (255 : Int32))) (0 : Int32))) rfl (n := 11) rfl ?_
  refine o_bipush X0 hx (hb hby d_prog_28_method_5_code_11) (v := (8 : Int32)) rfl (n := 13) rfl ?_
  refine o_lshl X0 hx (hb hby d_prog_28_method_5_code_13) (v := ((o_st (o_st (o_st (o_st (o_st (o_st (0 : Int64) (w0 &&& (255 : Int32))) (w1 &&& (255 : Int32))) (w2 &&& (255 : Int32))) (w3 &&& (255 : Int32))) (w4 &&& (255 : Int32))) (0 : Int32)) <<< (8 : Int64))) rfl (n := 14) rfl ?_
  refine o_iloadN X0 hx (hb hby d_prog_28_method_5_code_14) (v := (6 : Int32)) rfl (n := 15) rfl ?_
  refine o_aloadN X0 hx (hb hby d_prog_28_method_5_code_15) (v := (.ref a1)) rfl rfl (n := 16) rfl ?_
  refine o_arraylength X0 hx hZ e0 pV_a1 (hb hby d_prog_28_method_5_code_16) (n := 17) rfl ?_
  refine o_icmpY X0 hx (hb hby d_prog_28_method_5_code_17) (XT.ii_ge_t (by decide)) (by decide) (n := 30) (by decide) ?_
  refine o_iconst X0 hx (hb hby d_prog_28_method_5_code_30) (v := (0 : Int32)) rfl (n := 31) rfl ?_
  refine o_i2l X0 hx (hb hby d_prog_28_method_5_code_31) (v := (0 : Int64)) (by decide) (n := 32) rfl ?_
  refine o_lor X0 hx (hb hby d_prog_28_method_5_code_32) (v := (o_st (o_st (o_st (o_st (o_st (o_st (o_st (0 : Int64) (w0 &&& (255 : Int32))) (w1 &&& (255 : Int32))) (w2 &&& (255 : Int32))) (w3 &&& (255 : Int32))) (w4 &&& (255 : Int32))) (0 : Int32)) (0 : Int32))) rfl (n := 33) rfl ?_
  refine o_lstoreN X0 hx (hb hby d_prog_28_method_5_code_33) (Ls' := #[.val (.ref a1), .val (.long (o_st (o_st (o_st (o_st (o_st (o_st (o_st (0 : Int64) (w0 &&& (255 : Int32))) (w1 &&& (255 : Int32))) (w2 &&& (255 : Int32))) (w3 &&& (255 : Int32))) (w4 &&& (255 : Int32))) (0 : Int32)) (0 : Int32))), .second, .val (.int (6 : Int32))]) rfl (n := 34) rfl ?_
  refine o_iinc X0 hx (hb hby d_prog_28_method_5_code_34) (w := (7 : Int32)) rfl (by decide) (Ls' := #[.val (.ref a1), .val (.long (o_st (o_st (o_st (o_st (o_st (o_st (o_st (0 : Int64) (w0 &&& (255 : Int32))) (w1 &&& (255 : Int32))) (w2 &&& (255 : Int32))) (w3 &&& (255 : Int32))) (w4 &&& (255 : Int32))) (0 : Int32)) (0 : Int32))), .second, .val (.int (7 : Int32))]) rfl (n := 37) rfl ?_
  refine o_goto X0 hx (hb hby d_prog_28_method_5_code_37) (by decide) (n := 4) (by decide) ?_
  refine o_iloadN X0 hx (hb hby d_prog_28_method_5_code_4) (v := (7 : Int32)) rfl (n := 5) rfl ?_
  refine o_bipush X0 hx (hb hby d_prog_28_method_5_code_5) (v := (8 : Int32)) rfl (n := 7) rfl ?_
  refine o_icmpN X0 hx (hb hby d_prog_28_method_5_code_7) (XT.ii_ge_f (by decide)) (n := 10) rfl ?_
  refine o_lloadN X0 hx (hb hby d_prog_28_method_5_code_10) (v := (o_st (o_st (o_st (o_st (o_st (o_st (o_st (0 : Int64) (w0 &&& (255 : Int32))) (w1 &&& (255 : Int32))) (w2 &&& (255 : Int32))) (w3 &&& (255 : Int32))) (w4 &&& (255 : Int32))) (0 : Int32)) (0 : Int32))) rfl (n := 11) rfl ?_
  refine o_bipush X0 hx (hb hby d_prog_28_method_5_code_11) (v := (8 : Int32)) rfl (n := 13) rfl ?_
  refine o_lshl X0 hx (hb hby d_prog_28_method_5_code_13) (v := ((o_st (o_st (o_st (o_st (o_st (o_st (o_st (0 : Int64) (w0 &&& (255 : Int32))) (w1 &&& (255 : Int32))) (w2 &&& (255 : Int32))) (w3 &&& (255 : Int32))) (w4 &&& (255 : Int32))) (0 : Int32)) (0 : Int32)) <<< (8 : Int64))) rfl (n := 14) rfl ?_
  refine o_iloadN X0 hx (hb hby d_prog_28_method_5_code_14) (v := (7 : Int32)) rfl (n := 15) rfl ?_
  refine o_aloadN X0 hx (hb hby d_prog_28_method_5_code_15) (v := (.ref a1)) rfl rfl (n := 16) rfl ?_
  refine o_arraylength X0 hx hZ e0 pV_a1 (hb hby d_prog_28_method_5_code_16) (n := 17) rfl ?_
  refine o_icmpY X0 hx (hb hby d_prog_28_method_5_code_17) (XT.ii_ge_t (by decide)) (by decide) (n := 30) (by decide) ?_
  refine o_iconst X0 hx (hb hby d_prog_28_method_5_code_30) (v := (0 : Int32)) rfl (n := 31) rfl ?_
  refine o_i2l X0 hx (hb hby d_prog_28_method_5_code_31) (v := (0 : Int64)) (by decide) (n := 32) rfl ?_
  refine o_lor X0 hx (hb hby d_prog_28_method_5_code_32) (v := (o_st (o_st (o_st (o_st (o_st (o_st (o_st (o_st (0 : Int64) (w0 &&& (255 : Int32))) (w1 &&& (255 : Int32))) (w2 &&& (255 : Int32))) (w3 &&& (255 : Int32))) (w4 &&& (255 : Int32))) (0 : Int32)) (0 : Int32)) (0 : Int32))) rfl (n := 33) rfl ?_
  refine o_lstoreN X0 hx (hb hby d_prog_28_method_5_code_33) (Ls' := #[.val (.ref a1), .val (.long (o_st (o_st (o_st (o_st (o_st (o_st (o_st (o_st (0 : Int64) (w0 &&& (255 : Int32))) (w1 &&& (255 : Int32))) (w2 &&& (255 : Int32))) (w3 &&& (255 : Int32))) (w4 &&& (255 : Int32))) (0 : Int32)) (0 : Int32)) (0 : Int32))), .second, .val (.int (7 : Int32))]) rfl (n := 34) rfl ?_
  refine o_iinc X0 hx (hb hby d_prog_28_method_5_code_34) (w := (8 : Int32)) rfl (by decide) (Ls' := #[.val (.ref a1), .val (.long (o_st (o_st (o_st (o_st (o_st (o_st (o_st (o_st (0 : Int64) (w0 &&& (255 : Int32))) (w1 &&& (255 : Int32))) (w2 &&& (255 : Int32))) (w3 &&& (255 : Int32))) (w4 &&& (255 : Int32))) (0 : Int32)) (0 : Int32)) (0 : Int32))), .second, .val (.int (8 : Int32))]) rfl (n := 37) rfl ?_
  refine o_goto X0 hx (hb hby d_prog_28_method_5_code_37) (by decide) (n := 4) (by decide) ?_
  refine o_iloadN X0 hx (hb hby d_prog_28_method_5_code_4) (v := (8 : Int32)) rfl (n := 5) rfl ?_
  refine o_bipush X0 hx (hb hby d_prog_28_method_5_code_5) (v := (8 : Int32)) rfl (n := 7) rfl ?_
  refine o_icmpY X0 hx (hb hby d_prog_28_method_5_code_7) (XT.ii_ge_t (by decide)) (by decide) (n := 40) (by decide) ?_
  refine o_lloadN X0 hx (hb hby d_prog_28_method_5_code_40) (v := (o_st (o_st (o_st (o_st (o_st (o_st (o_st (o_st (0 : Int64) (w0 &&& (255 : Int32))) (w1 &&& (255 : Int32))) (w2 &&& (255 : Int32))) (w3 &&& (255 : Int32))) (w4 &&& (255 : Int32))) (0 : Int32)) (0 : Int32)) (0 : Int32))) rfl (n := 41) rfl ?_
  exact o_lreturn X0 hx hret hlk (hb hby d_prog_28_method_5_code_41) (by decide) (by decide) e0 ⟨rfl, rfl, rfl⟩
theorem o_ef12 (m : MethodId) (p0 : Int64) : entryFrame m #[(.long p0), (.int (5 : Int32))] 3 = mkF m 0 #[.val (.long p0), .second, .val (.int (5 : Int32))] [] := by first | (simp [entryFrame, mkF, argsToLocals, Value.category]; done) | rfl
set_option maxRecDepth 65536 in
set_option maxHeartbeats 40000000 in
theorem c_exp_5 (l : Launch) (Z : State) (a0 : Array Value) (hw : ∀ d ∈ tables_1, d.before a0 Z = true) (p0 : Int64) (h0 : Heap) :
    Does l Z (⟨"com/example/variform/variform/variant/Utf8HeadPinLaw", "expected", "(JI)J"⟩ : MethodName) method_2_code 3 (some .long) [] ({ frames := 0, cells := 0, slots := 0, locals := 0 } : Room) #[(.long p0), (.int (5 : Int32))] h0 (Pur h0 (.long (p0 &&& (-16777216 : Int64)))) := by
  refine Does.of (plainFor_of_name o_pn1) ?_
  intro p e s m below meth c T0 hx hby hml hown hnm hret hlk hZ X0 e0
  have hown : s.vm.findClass "com/example/variform/variform/variant/Utf8HeadPinLaw" = some m.cls := hown
  have hml : c.maxLocals = 3 := hml
  have hret : meth.sig.returnType = some .long := hret
  refine o_entry (o_ef12 m p0) ?_
  refine o_iloadN X0 hx (hb hby d_method_2_code_0) (v := (5 : Int32)) rfl (n := 1) rfl ?_
  refine o_ifY X0 hx (hb hby d_method_2_code_1) (XT.i0_ne_t (by decide)) (by decide) (n := 6) (by decide) ?_
  refine o_iloadN X0 hx (hb hby d_method_2_code_6) (v := (5 : Int32)) rfl (n := 7) rfl ?_
  refine o_bipush X0 hx (hb hby d_method_2_code_7) (v := (8 : Int32)) rfl (n := 9) rfl ?_
  refine o_icmpY X0 hx (hb hby d_method_2_code_9) (XT.ii_lt_t (by decide)) (by decide) (n := 14) (by decide) ?_
  refine o_lloadN X0 hx (hb hby d_method_2_code_14) (v := p0) rfl (n := 15) rfl ?_
  refine o_ldc2_w X0 hx hZ (v := (-1 : Int64)) hown (hw _ (List.mem_of_getElem? (i := 10) rfl)) (hb hby d_method_2_code_15) (n := 18) rfl ?_
  refine o_bipush X0 hx (hb hby d_method_2_code_18) (v := (8 : Int32)) rfl (n := 20) rfl ?_
  refine o_bipush X0 hx (hb hby d_method_2_code_20) (v := (8 : Int32)) rfl (n := 22) rfl ?_
  refine o_iloadN X0 hx (hb hby d_method_2_code_22) (v := (5 : Int32)) rfl (n := 23) rfl ?_
  refine o_isub X0 hx (hb hby d_method_2_code_23) (v := (3 : Int32)) (by decide) (n := 24) rfl ?_
  refine o_imul X0 hx (hb hby d_method_2_code_24) (v := (24 : Int32)) (by decide) (n := 25) rfl ?_
  refine o_lshl X0 hx (hb hby d_method_2_code_25) (v := (-16777216 : Int64)) (by decide) (n := 26) rfl ?_
  refine o_land X0 hx (hb hby d_method_2_code_26) (v := (p0 &&& (-16777216 : Int64))) rfl (n := 27) rfl ?_
  exact o_lreturn X0 hx hret hlk (hb hby d_method_2_code_27) (by decide) (by decide) e0 ⟨rfl, rfl, rfl⟩
theorem o_ef13 (m : MethodId) (a1 : Addr) : entryFrame m #[(.ref a1)] 4 = mkF m 0 #[.val (.ref a1), .unset, .unset, .unset] [] := by first | (simp [entryFrame, mkF, argsToLocals, Value.category]; done) | rfl
set_option maxRecDepth 65536 in
set_option maxHeartbeats 40000000 in
theorem c_head_6 (l : Launch) (Z : State) (a0 : Array Value) (hw : ∀ d ∈ tables_1, d.before a0 Z = true) (a1 : Addr) (k1 : ClassId) (w0 : Int32) (w1 : Int32) (w2 : Int32) (w3 : Int32) (w4 : Int32) (w5 : Int32) (h0 : Heap) (pV_a1 : Arv Z h0 a1 k1 .byte (6 : Int32) [(.int w0), (.int w1), (.int w2), (.int w3), (.int w4), (.int w5)] (.int (0 : Int32))) :
    Does l Z (⟨"com/example/variform/variform/variant/Utf8", "head", "([B)J"⟩ : MethodName) prog_28_method_5_code 4 (some .long) [] ({ frames := 0, cells := 0, slots := 0, locals := 0 } : Room) #[(.ref a1)] h0 (Pur h0 (.long (o_st (o_st (o_st (o_st (o_st (o_st (o_st (o_st (0 : Int64) (w0 &&& (255 : Int32))) (w1 &&& (255 : Int32))) (w2 &&& (255 : Int32))) (w3 &&& (255 : Int32))) (w4 &&& (255 : Int32))) (w5 &&& (255 : Int32))) (0 : Int32)) (0 : Int32)))) := by
  refine Does.of (plainFor_of_name o_pn0) ?_
  intro p e s m below meth c T0 hx hby hml hown hnm hret hlk hZ X0 e0
  have hown : s.vm.findClass "com/example/variform/variform/variant/Utf8" = some m.cls := hown
  have hml : c.maxLocals = 4 := hml
  have hret : meth.sig.returnType = some .long := hret
  refine o_entry (o_ef13 m a1) ?_
  refine o_lconst X0 hx (hb hby d_prog_28_method_5_code_0) (v := (0 : Int64)) rfl (n := 1) rfl ?_
  refine o_lstoreN X0 hx (hb hby d_prog_28_method_5_code_1) (Ls' := #[.val (.ref a1), .val (.long (0 : Int64)), .second, .unset]) rfl (n := 2) rfl ?_
  refine o_iconst X0 hx (hb hby d_prog_28_method_5_code_2) (v := (0 : Int32)) rfl (n := 3) rfl ?_
  refine o_istoreN X0 hx (hb hby d_prog_28_method_5_code_3) (Ls' := #[.val (.ref a1), .val (.long (0 : Int64)), .second, .val (.int (0 : Int32))]) rfl (n := 4) rfl ?_
  refine o_iloadN X0 hx (hb hby d_prog_28_method_5_code_4) (v := (0 : Int32)) rfl (n := 5) rfl ?_
  refine o_bipush X0 hx (hb hby d_prog_28_method_5_code_5) (v := (8 : Int32)) rfl (n := 7) rfl ?_
  refine o_icmpN X0 hx (hb hby d_prog_28_method_5_code_7) (XT.ii_ge_f (by decide)) (n := 10) rfl ?_
  refine o_lloadN X0 hx (hb hby d_prog_28_method_5_code_10) (v := (0 : Int64)) rfl (n := 11) rfl ?_
  refine o_bipush X0 hx (hb hby d_prog_28_method_5_code_11) (v := (8 : Int32)) rfl (n := 13) rfl ?_
  refine o_lshl X0 hx (hb hby d_prog_28_method_5_code_13) (v := ((0 : Int64) <<< (8 : Int64))) rfl (n := 14) rfl ?_
  refine o_iloadN X0 hx (hb hby d_prog_28_method_5_code_14) (v := (0 : Int32)) rfl (n := 15) rfl ?_
  refine o_aloadN X0 hx (hb hby d_prog_28_method_5_code_15) (v := (.ref a1)) rfl rfl (n := 16) rfl ?_
  refine o_arraylength X0 hx hZ e0 pV_a1 (hb hby d_prog_28_method_5_code_16) (n := 17) rfl ?_
  refine o_icmpN X0 hx (hb hby d_prog_28_method_5_code_17) (XT.ii_ge_f (by decide)) (n := 20) rfl ?_
  refine o_aloadN X0 hx (hb hby d_prog_28_method_5_code_20) (v := (.ref a1)) rfl rfl (n := 21) rfl ?_
  refine o_iloadN X0 hx (hb hby d_prog_28_method_5_code_21) (v := (0 : Int32)) rfl (n := 22) rfl ?_
  refine o_baload X0 hx hZ e0 pV_a1 (0) (by decide) (by decide) (v := (.int w0)) rfl (hb hby d_prog_28_method_5_code_22) (n := 23) rfl ?_
  refine o_sipush X0 hx (hb hby d_prog_28_method_5_code_23) (v := (255 : Int32)) rfl (n := 26) rfl ?_
  refine o_iand X0 hx (hb hby d_prog_28_method_5_code_26) (v := (w0 &&& (255 : Int32))) rfl (n := 27) rfl ?_
  refine o_goto X0 hx (hb hby d_prog_28_method_5_code_27) (by decide) (n := 31) (by decide) ?_
  refine o_i2l X0 hx (hb hby d_prog_28_method_5_code_31) (v := (w0 &&& (255 : Int32)).toInt64) rfl (n := 32) rfl ?_
  refine o_lor X0 hx (hb hby d_prog_28_method_5_code_32) (v := (o_st (0 : Int64) (w0 &&& (255 : Int32)))) rfl (n := 33) rfl ?_
  refine o_lstoreN X0 hx (hb hby d_prog_28_method_5_code_33) (Ls' := #[.val (.ref a1), .val (.long (o_st (0 : Int64) (w0 &&& (255 : Int32)))), .second, .val (.int (0 : Int32))]) rfl (n := 34) rfl ?_
  refine o_iinc X0 hx (hb hby d_prog_28_method_5_code_34) (w := (1 : Int32)) rfl (by decide) (Ls' := #[.val (.ref a1), .val (.long (o_st (0 : Int64) (w0 &&& (255 : Int32)))), .second, .val (.int (1 : Int32))]) rfl (n := 37) rfl ?_
  refine o_goto X0 hx (hb hby d_prog_28_method_5_code_37) (by decide) (n := 4) (by decide) ?_
  refine o_iloadN X0 hx (hb hby d_prog_28_method_5_code_4) (v := (1 : Int32)) rfl (n := 5) rfl ?_
  refine o_bipush X0 hx (hb hby d_prog_28_method_5_code_5) (v := (8 : Int32)) rfl (n := 7) rfl ?_
  refine o_icmpN X0 hx (hb hby d_prog_28_method_5_code_7) (XT.ii_ge_f (by decide)) (n := 10) rfl ?_
  refine o_lloadN X0 hx (hb hby d_prog_28_method_5_code_10) (v := (o_st (0 : Int64) (w0 &&& (255 : Int32)))) rfl (n := 11) rfl ?_
  refine o_bipush X0 hx (hb hby d_prog_28_method_5_code_11) (v := (8 : Int32)) rfl (n := 13) rfl ?_
  refine o_lshl X0 hx (hb hby d_prog_28_method_5_code_13) (v := ((o_st (0 : Int64) (w0 &&& (255 : Int32))) <<< (8 : Int64))) rfl (n := 14) rfl ?_
  refine o_iloadN X0 hx (hb hby d_prog_28_method_5_code_14) (v := (1 : Int32)) rfl (n := 15) rfl ?_
  refine o_aloadN X0 hx (hb hby d_prog_28_method_5_code_15) (v := (.ref a1)) rfl rfl (n := 16) rfl ?_
  refine o_arraylength X0 hx hZ e0 pV_a1 (hb hby d_prog_28_method_5_code_16) (n := 17) rfl ?_
  refine o_icmpN X0 hx (hb hby d_prog_28_method_5_code_17) (XT.ii_ge_f (by decide)) (n := 20) rfl ?_
  refine o_aloadN X0 hx (hb hby d_prog_28_method_5_code_20) (v := (.ref a1)) rfl rfl (n := 21) rfl ?_
  refine o_iloadN X0 hx (hb hby d_prog_28_method_5_code_21) (v := (1 : Int32)) rfl (n := 22) rfl ?_
  refine o_baload X0 hx hZ e0 pV_a1 (1) (by decide) (by decide) (v := (.int w1)) rfl (hb hby d_prog_28_method_5_code_22) (n := 23) rfl ?_
  refine o_sipush X0 hx (hb hby d_prog_28_method_5_code_23) (v := (255 : Int32)) rfl (n := 26) rfl ?_
  refine o_iand X0 hx (hb hby d_prog_28_method_5_code_26) (v := (w1 &&& (255 : Int32))) rfl (n := 27) rfl ?_
  refine o_goto X0 hx (hb hby d_prog_28_method_5_code_27) (by decide) (n := 31) (by decide) ?_
  refine o_i2l X0 hx (hb hby d_prog_28_method_5_code_31) (v := (w1 &&& (255 : Int32)).toInt64) rfl (n := 32) rfl ?_
  refine o_lor X0 hx (hb hby d_prog_28_method_5_code_32) (v := (o_st (o_st (0 : Int64) (w0 &&& (255 : Int32))) (w1 &&& (255 : Int32)))) rfl (n := 33) rfl ?_
  refine o_lstoreN X0 hx (hb hby d_prog_28_method_5_code_33) (Ls' := #[.val (.ref a1), .val (.long (o_st (o_st (0 : Int64) (w0 &&& (255 : Int32))) (w1 &&& (255 : Int32)))), .second, .val (.int (1 : Int32))]) rfl (n := 34) rfl ?_
  refine o_iinc X0 hx (hb hby d_prog_28_method_5_code_34) (w := (2 : Int32)) rfl (by decide) (Ls' := #[.val (.ref a1), .val (.long (o_st (o_st (0 : Int64) (w0 &&& (255 : Int32))) (w1 &&& (255 : Int32)))), .second, .val (.int (2 : Int32))]) rfl (n := 37) rfl ?_
  refine o_goto X0 hx (hb hby d_prog_28_method_5_code_37) (by decide) (n := 4) (by decide) ?_
  refine o_iloadN X0 hx (hb hby d_prog_28_method_5_code_4) (v := (2 : Int32)) rfl (n := 5) rfl ?_
  refine o_bipush X0 hx (hb hby d_prog_28_method_5_code_5) (v := (8 : Int32)) rfl (n := 7) rfl ?_
  refine o_icmpN X0 hx (hb hby d_prog_28_method_5_code_7) (XT.ii_ge_f (by decide)) (n := 10) rfl ?_
  refine o_lloadN X0 hx (hb hby d_prog_28_method_5_code_10) (v := (o_st (o_st (0 : Int64) (w0 &&& (255 : Int32))) (w1 &&& (255 : Int32)))) rfl (n := 11) rfl ?_
  refine o_bipush X0 hx (hb hby d_prog_28_method_5_code_11) (v := (8 : Int32)) rfl (n := 13) rfl ?_
  refine o_lshl X0 hx (hb hby d_prog_28_method_5_code_13) (v := ((o_st (o_st (0 : Int64) (w0 &&& (255 : Int32))) (w1 &&& (255 : Int32))) <<< (8 : Int64))) rfl (n := 14) rfl ?_
  refine o_iloadN X0 hx (hb hby d_prog_28_method_5_code_14) (v := (2 : Int32)) rfl (n := 15) rfl ?_
  refine o_aloadN X0 hx (hb hby d_prog_28_method_5_code_15) (v := (.ref a1)) rfl rfl (n := 16) rfl ?_
  refine o_arraylength X0 hx hZ e0 pV_a1 (hb hby d_prog_28_method_5_code_16) (n := 17) rfl ?_
  refine o_icmpN X0 hx (hb hby d_prog_28_method_5_code_17) (XT.ii_ge_f (by decide)) (n := 20) rfl ?_
  refine o_aloadN X0 hx (hb hby d_prog_28_method_5_code_20) (v := (.ref a1)) rfl rfl (n := 21) rfl ?_
  refine o_iloadN X0 hx (hb hby d_prog_28_method_5_code_21) (v := (2 : Int32)) rfl (n := 22) rfl ?_
  refine o_baload X0 hx hZ e0 pV_a1 (2) (by decide) (by decide) (v := (.int w2)) rfl (hb hby d_prog_28_method_5_code_22) (n := 23) rfl ?_
  refine o_sipush X0 hx (hb hby d_prog_28_method_5_code_23) (v := (255 : Int32)) rfl (n := 26) rfl ?_
  refine o_iand X0 hx (hb hby d_prog_28_method_5_code_26) (v := (w2 &&& (255 : Int32))) rfl (n := 27) rfl ?_
  refine o_goto X0 hx (hb hby d_prog_28_method_5_code_27) (by decide) (n := 31) (by decide) ?_
  refine o_i2l X0 hx (hb hby d_prog_28_method_5_code_31) (v := (w2 &&& (255 : Int32)).toInt64) rfl (n := 32) rfl ?_
  refine o_lor X0 hx (hb hby d_prog_28_method_5_code_32) (v := (o_st (o_st (o_st (0 : Int64) (w0 &&& (255 : Int32))) (w1 &&& (255 : Int32))) (w2 &&& (255 : Int32)))) rfl (n := 33) rfl ?_
  refine o_lstoreN X0 hx (hb hby d_prog_28_method_5_code_33) (Ls' := #[.val (.ref a1), .val (.long (o_st (o_st (o_st (0 : Int64) (w0 &&& (255 : Int32))) (w1 &&& (255 : Int32))) (w2 &&& (255 : Int32)))), .second, .val (.int (2 : Int32))]) rfl (n := 34) rfl ?_
  refine o_iinc X0 hx (hb hby d_prog_28_method_5_code_34) (w := (3 : Int32)) rfl (by decide) (Ls' := #[.val (.ref a1), .val (.long (o_st (o_st (o_st (0 : Int64) (w0 &&& (255 : Int32))) (w1 &&& (255 : Int32))) (w2 &&& (255 : Int32)))), .second, .val (.int (3 : Int32))]) rfl (n := 37) rfl ?_
  refine o_goto X0 hx (hb hby d_prog_28_method_5_code_37) (by decide) (n := 4) (by decide) ?_
  refine o_iloadN X0 hx (hb hby d_prog_28_method_5_code_4) (v := (3 : Int32)) rfl (n := 5) rfl ?_
  refine o_bipush X0 hx (hb hby d_prog_28_method_5_code_5) (v := (8 : Int32)) rfl (n := 7) rfl ?_
  refine o_icmpN X0 hx (hb hby d_prog_28_method_5_code_7) (XT.ii_ge_f (by decide)) (n := 10) rfl ?_
  refine o_lloadN X0 hx (hb hby d_prog_28_method_5_code_10) (v := (o_st (o_st (o_st (0 : Int64) (w0 &&& (255 : Int32))) (w1 &&& (255 : Int32))) (w2 &&& (255 : Int32)))) rfl (n := 11) rfl ?_
  refine o_bipush X0 hx (hb hby d_prog_28_method_5_code_11) (v := (8 : Int32)) rfl (n := 13) rfl ?_
  refine o_lshl X0 hx (hb hby d_prog_28_method_5_code_13) (v := ((o_st (o_st (o_st (0 : Int64) (w0 &&& (255 : Int32))) (w1 &&& (255 : Int32))) (w2 &&& (255 : Int32))) <<< (8 : Int64))) rfl (n := 14) rfl ?_
  refine o_iloadN X0 hx (hb hby d_prog_28_method_5_code_14) (v := (3 : Int32)) rfl (n := 15) rfl ?_
  refine o_aloadN X0 hx (hb hby d_prog_28_method_5_code_15) (v := (.ref a1)) rfl rfl (n := 16) rfl ?_
  refine o_arraylength X0 hx hZ e0 pV_a1 (hb hby d_prog_28_method_5_code_16) (n := 17) rfl ?_
  refine o_icmpN X0 hx (hb hby d_prog_28_method_5_code_17) (XT.ii_ge_f (by decide)) (n := 20) rfl ?_
  refine o_aloadN X0 hx (hb hby d_prog_28_method_5_code_20) (v := (.ref a1)) rfl rfl (n := 21) rfl ?_
  refine o_iloadN X0 hx (hb hby d_prog_28_method_5_code_21) (v := (3 : Int32)) rfl (n := 22) rfl ?_
  refine o_baload X0 hx hZ e0 pV_a1 (3) (by decide) (by decide) (v := (.int w3)) rfl (hb hby d_prog_28_method_5_code_22) (n := 23) rfl ?_
  refine o_sipush X0 hx (hb hby d_prog_28_method_5_code_23) (v := (255 : Int32)) rfl (n := 26) rfl ?_
  refine o_iand X0 hx (hb hby d_prog_28_method_5_code_26) (v := (w3 &&& (255 : Int32))) rfl (n := 27) rfl ?_
  refine o_goto X0 hx (hb hby d_prog_28_method_5_code_27) (by decide) (n := 31) (by decide) ?_
  refine o_i2l X0 hx (hb hby d_prog_28_method_5_code_31) (v := (w3 &&& (255 : Int32)).toInt64) rfl (n := 32) rfl ?_
  refine o_lor X0 hx (hb hby d_prog_28_method_5_code_32) (v := (o_st (o_st (o_st (o_st (0 : Int64) (w0 &&& (255 : Int32))) (w1 &&& (255 : Int32))) (w2 &&& (255 : Int32))) (w3 &&& (255 : Int32)))) rfl (n := 33) rfl ?_
  refine o_lstoreN X0 hx (hb hby d_prog_28_method_5_code_33) (Ls' := #[.val (.ref a1), .val (.long (o_st (o_st (o_st (o_st (0 : Int64) (w0 &&& (255 : Int32))) (w1 &&& (255 : Int32))) (w2 &&& (255 : Int32))) (w3 &&& (255 : Int32)))), .second, .val (.int (3 : Int32))]) rfl (n := 34) rfl ?_
  refine o_iinc X0 hx (hb hby d_prog_28_method_5_code_34) (w := (4 : Int32)) rfl (by decide) (Ls' := #[.val (.ref a1), .val (.long (o_st (o_st (o_st (o_st (0 : Int64) (w0 &&& (255 : Int32))) (w1 &&& (255 : Int32))) (w2 &&& (255 : Int32))) (w3 &&& (255 : Int32)))), .second, .val (.int (4 : Int32))]) rfl (n := 37) rfl ?_
  refine o_goto X0 hx (hb hby d_prog_28_method_5_code_37) (by decide) (n := 4) (by decide) ?_
  refine o_iloadN X0 hx (hb hby d_prog_28_method_5_code_4) (v := (4 : Int32)) rfl (n := 5) rfl ?_
  refine o_bipush X0 hx (hb hby d_prog_28_method_5_code_5) (v := (8 : Int32)) rfl (n := 7) rfl ?_
  refine o_icmpN X0 hx (hb hby d_prog_28_method_5_code_7) (XT.ii_ge_f (by decide)) (n := 10) rfl ?_
  refine o_lloadN X0 hx (hb hby d_prog_28_method_5_code_10) (v := (o_st (o_st (o_st (o_st (0 : Int64) (w0 &&& (255 : Int32))) (w1 &&& (255 : Int32))) (w2 &&& (255 : Int32))) (w3 &&& (255 : Int32)))) rfl (n := 11) rfl ?_
  refine o_bipush X0 hx (hb hby d_prog_28_method_5_code_11) (v := (8 : Int32)) rfl (n := 13) rfl ?_
  refine o_lshl X0 hx (hb hby d_prog_28_method_5_code_13) (v := ((o_st (o_st (o_st (o_st (0 : Int64) (w0 &&& (255 : Int32))) (w1 &&& (255 : Int32))) (w2 &&& (255 : Int32))) (w3 &&& (255 : Int32))) <<< (8 : Int64))) rfl (n := 14) rfl ?_
  refine o_iloadN X0 hx (hb hby d_prog_28_method_5_code_14) (v := (4 : Int32)) rfl (n := 15) rfl ?_
  refine o_aloadN X0 hx (hb hby d_prog_28_method_5_code_15) (v := (.ref a1)) rfl rfl (n := 16) rfl ?_
  refine o_arraylength X0 hx hZ e0 pV_a1 (hb hby d_prog_28_method_5_code_16) (n := 17) rfl ?_
  refine o_icmpN X0 hx (hb hby d_prog_28_method_5_code_17) (XT.ii_ge_f (by decide)) (n := 20) rfl ?_
  refine o_aloadN X0 hx (hb hby d_prog_28_method_5_code_20) (v := (.ref a1)) rfl rfl (n := 21) rfl ?_
  refine o_iloadN X0 hx (hb hby d_prog_28_method_5_code_21) (v := (4 : Int32)) rfl (n := 22) rfl ?_
  refine o_baload X0 hx hZ e0 pV_a1 (4) (by decide) (by decide) (v := (.int w4)) rfl (hb hby d_prog_28_method_5_code_22) (n := 23) rfl ?_
  refine o_sipush X0 hx (hb hby d_prog_28_method_5_code_23) (v := (255 : Int32)) rfl (n := 26) rfl ?_
  refine o_iand X0 hx (hb hby d_prog_28_method_5_code_26) (v := (w4 &&& (255 : Int32))) rfl (n := 27) rfl ?_
  refine o_goto X0 hx (hb hby d_prog_28_method_5_code_27) (by decide) (n := 31) (by decide) ?_
  refine o_i2l X0 hx (hb hby d_prog_28_method_5_code_31) (v := (w4 &&& (255 : Int32)).toInt64) rfl (n := 32) rfl ?_
  refine o_lor X0 hx (hb hby d_prog_28_method_5_code_32) (v := (o_st (o_st (o_st (o_st (o_st (0 : Int64) (w0 &&& (255 : Int32))) (w1 &&& (255 : Int32))) (w2 &&& (255 : Int32))) (w3 &&& (255 : Int32))) (w4 &&& (255 : Int32)))) rfl (n := 33) rfl ?_
  refine o_lstoreN X0 hx (hb hby d_prog_28_method_5_code_33) (Ls' := #[.val (.ref a1), .val (.long (o_st (o_st (o_st (o_st (o_st (0 : Int64) (w0 &&& (255 : Int32))) (w1 &&& (255 : Int32))) (w2 &&& (255 : Int32))) (w3 &&& (255 : Int32))) (w4 &&& (255 : Int32)))), .second, .val (.int (4 : Int32))]) rfl (n := 34) rfl ?_
  refine o_iinc X0 hx (hb hby d_prog_28_method_5_code_34) (w := (5 : Int32)) rfl (by decide) (Ls' := #[.val (.ref a1), .val (.long (o_st (o_st (o_st (o_st (o_st (0 : Int64) (w0 &&& (255 : Int32))) (w1 &&& (255 : Int32))) (w2 &&& (255 : Int32))) (w3 &&& (255 : Int32))) (w4 &&& (255 : Int32)))), .second, .val (.int (5 : Int32))]) rfl (n := 37) rfl ?_
  refine o_goto X0 hx (hb hby d_prog_28_method_5_code_37) (by decide) (n := 4) (by decide) ?_
  refine o_iloadN X0 hx (hb hby d_prog_28_method_5_code_4) (v := (5 : Int32)) rfl (n := 5) rfl ?_
  refine o_bipush X0 hx (hb hby d_prog_28_method_5_code_5) (v := (8 : Int32)) rfl (n := 7) rfl ?_
  refine o_icmpN X0 hx (hb hby d_prog_28_method_5_code_7) (XT.ii_ge_f (by decide)) (n := 10) rfl ?_
  refine o_lloadN X0 hx (hb hby d_prog_28_method_5_code_10) (v := (o_st (o_st (o_st (o_st (o_st (0 : Int64) (w0 &&& (255 : Int32))) (w1 &&& (255 : Int32))) (w2 &&& (255 : Int32))) (w3 &&& (255 : Int32))) (w4 &&& (255 : Int32)))) rfl (n := 11) rfl ?_
  refine o_bipush X0 hx (hb hby d_prog_28_method_5_code_11) (v := (8 : Int32)) rfl (n := 13) rfl ?_
  refine o_lshl X0 hx (hb hby d_prog_28_method_5_code_13) (v := ((o_st (o_st (o_st (o_st (o_st (0 : Int64) (w0 &&& (255 : Int32))) (w1 &&& (255 : Int32))) (w2 &&& (255 : Int32))) (w3 &&& (255 : Int32))) (w4 &&& (255 : Int32))) <<< (8 : Int64))) rfl (n := 14) rfl ?_
  refine o_iloadN X0 hx (hb hby d_prog_28_method_5_code_14) (v := (5 : Int32)) rfl (n := 15) rfl ?_
  refine o_aloadN X0 hx (hb hby d_prog_28_method_5_code_15) (v := (.ref a1)) rfl rfl (n := 16) rfl ?_
  refine o_arraylength X0 hx hZ e0 pV_a1 (hb hby d_prog_28_method_5_code_16) (n := 17) rfl ?_
  refine o_icmpN X0 hx (hb hby d_prog_28_method_5_code_17) (XT.ii_ge_f (by decide)) (n := 20) rfl ?_
  refine o_aloadN X0 hx (hb hby d_prog_28_method_5_code_20) (v := (.ref a1)) rfl rfl (n := 21) rfl ?_
  refine o_iloadN X0 hx (hb hby d_prog_28_method_5_code_21) (v := (5 : Int32)) rfl (n := 22) rfl ?_
  refine o_baload X0 hx hZ e0 pV_a1 (5) (by decide) (by decide) (v := (.int w5)) rfl (hb hby d_prog_28_method_5_code_22) (n := 23) rfl ?_
  refine o_sipush X0 hx (hb hby d_prog_28_method_5_code_23) (v := (255 : Int32)) rfl (n := 26) rfl ?_
  refine o_iand X0 hx (hb hby d_prog_28_method_5_code_26) (v := (w5 &&& (255 : Int32))) rfl (n := 27) rfl ?_
  refine o_goto X0 hx (hb hby d_prog_28_method_5_code_27) (by decide) (n := 31) (by decide) ?_
  refine o_i2l X0 hx (hb hby d_prog_28_method_5_code_31) (v := (w5 &&& (255 : Int32)).toInt64) rfl (n := 32) rfl ?_
  refine o_lor X0 hx (hb hby d_prog_28_method_5_code_32) (v := (o_st (o_st (o_st (o_st (o_st (o_st (0 : Int64) (w0 &&& (255 : Int32))) (w1 &&& (255 : Int32))) (w2 &&& (255 : Int32))) (w3 &&& (255 : Int32))) (w4 &&& (255 : Int32))) (w5 &&& (255 : Int32)))) rfl (n := 33) rfl ?_
  refine o_lstoreN X0 hx (hb hby d_prog_28_method_5_code_33) (Ls' := #[.val (.ref a1), .val (.long (o_st (o_st (o_st (o_st (o_st (o_st (0 : Int64) (w0 &&& (255 : Int32))) (w1 &&& (255 : Int32))) (w2 &&& (255 : Int32))) (w3 &&& (255 : Int32))) (w4 &&& (255 : Int32))) (w5 &&& (255 : Int32)))), .second, .val (.int (5 : Int32))]) rfl (n := 34) rfl ?_
  refine o_iinc X0 hx (hb hby d_prog_28_method_5_code_34) (w := (6 : Int32)) rfl (by decide) (Ls' := #[.val (.ref a1), .val (.long (o_st (o_st (o_st (o_st (o_st (o_st (0 : Int64) (w0 &&& (255 : Int32))) (w1 &&& (255 : Int32))) (w2 &&& (255 : Int32))) (w3 &&& (255 : Int32))) (w4 &&& (255 : Int32))) (w5 &&& (255 : Int32)))), .second, .val (.int (6 : Int32))]) rfl (n := 37) rfl ?_
  refine o_goto X0 hx (hb hby d_prog_28_method_5_code_37) (by decide) (n := 4) (by decide) ?_
  refine o_iloadN X0 hx (hb hby d_prog_28_method_5_code_4) (v := (6 : Int32)) rfl (n := 5) rfl ?_
  refine o_bipush X0 hx (hb hby d_prog_28_method_5_code_5) (v := (8 : Int32)) rfl (n := 7) rfl ?_
  refine o_icmpN X0 hx (hb hby d_prog_28_method_5_code_7) (XT.ii_ge_f (by decide)) (n := 10) rfl ?_
  refine o_lloadN X0 hx (hb hby d_prog_28_method_5_code_10) (v := (o_st (o_st (o_st (o_st (o_st (o_st (0 : Int64) (w0 &&& (255 : Int32))) (w1 &&& (255 : Int32))) (w2 &&& (255 : Int32))) (w3 &&& (255 : Int32))) (w4 &&& (255 : Int32))) (w5 &&& (255 : Int32)))) rfl (n := 11) rfl ?_
  refine o_bipush X0 hx (hb hby d_prog_28_method_5_code_11) (v := (8 : Int32)) rfl (n := 13) rfl ?_
  refine o_lshl X0 hx (hb hby d_prog_28_method_5_code_13) (v := ((o_st (o_st (o_st (o_st (o_st (o_st (0 : Int64) (w0 &&& (255 : Int32))) (w1 &&& (255 : Int32))) (w2 &&& (255 : Int32))) (w3 &&& (255 : Int32))) (w4 &&& (255 : Int32))) (w5 &&& (255 : Int32))) <<< (8 : Int64))) rfl (n := 14) rfl ?_
  refine o_iloadN X0 hx (hb hby d_prog_28_method_5_code_14) (v := (6 : Int32)) rfl (n := 15) rfl ?_
  refine o_aloadN X0 hx (hb hby d_prog_28_method_5_code_15) (v := (.ref a1)) rfl rfl (n := 16) rfl ?_
  refine o_arraylength X0 hx hZ e0 pV_a1 (hb hby d_prog_28_method_5_code_16) (n := 17) rfl ?_
  refine o_icmpY X0 hx (hb hby d_prog_28_method_5_code_17) (XT.ii_ge_t (by decide)) (by decide) (n := 30) (by decide) ?_
  refine o_iconst X0 hx (hb hby d_prog_28_method_5_code_30) (v := (0 : Int32)) rfl (n := 31) rfl ?_
  refine o_i2l X0 hx (hb hby d_prog_28_method_5_code_31) (v := (0 : Int64)) (by decide) (n := 32) rfl ?_
  refine o_lor X0 hx (hb hby d_prog_28_method_5_code_32) (v := (o_st (o_st (o_st (o_st (o_st (o_st (o_st (0 : Int64) (w0 &&& (255 : Int32))) (w1 &&& (255 : Int32))) (w2 &&& (255 : Int32))) (w3 &&& (255 : Int32))) (w4 &&& (255 : Int32))) (w5 &&& (255 : Int32))) (0 : Int32))) rfl (n := 33) rfl ?_
  refine o_lstoreN X0 hx (hb hby d_prog_28_method_5_code_33) (Ls' := #[.val (.ref a1), .val (.long (o_st (o_st (o_st (o_st (o_st (o_st (o_st (0 : Int64) (w0 &&& (255 : Int32))) (w1 &&& (255 : Int32))) (w2 &&& (255 : Int32))) (w3 &&& (255 : Int32))) (w4 &&& (255 : Int32))) (w5 &&& (255 : Int32))) (0 : Int32))), .second, .val (.int (6 : Int32))]) rfl (n := 34) rfl ?_
  refine o_iinc X0 hx (hb hby d_prog_28_method_5_code_34) (w := (7 : Int32)) rfl (by decide) (Ls' := #[.val (.ref a1), .val (.long (o_st (o_st (o_st (o_st (o_st (o_st (o_st (0 : Int64) (w0 &&& (255 : Int32))) (w1 &&& (255 : Int32))) (w2 &&& (255 : Int32))) (w3 &&& (255 : Int32))) (w4 &&& (255 : Int32))) (w5 &&& (255 : Int32))) (0 : Int32))), .second, .val (.int (7 : Int32))]) rfl (n := 37) rfl ?_
  refine o_goto X0 hx (hb hby d_prog_28_method_5_code_37) (by decide) (n := 4) (by decide) ?_
  refine o_iloadN X0 hx (hb hby d_prog_28_method_5_code_4) (v := (7 : Int32)) rfl (n := 5) rfl ?_
  refine o_bipush X0 hx (hb hby d_prog_28_method_5_code_5) (v := (8 : Int32)) rfl (n := 7) rfl ?_
  refine o_icmpN X0 hx (hb hby d_prog_28_method_5_code_7) (XT.ii_ge_f (by decide)) (n := 10) rfl ?_
  refine o_lloadN X0 hx (hb hby d_prog_28_method_5_code_10) (v := (o_st (o_st (o_st (o_st (o_st (o_st (o_st (0 : Int64) (w0 &&& (255 : Int32))) (w1 &&& (255 : Int32))) (w2 &&& (255 : Int32))) (w3 &&& (255 : Int32))) (w4 &&& (255 : Int32))) (w5 &&& (255 : Int32))) (0 : Int32))) rfl (n := 11) rfl ?_
  refine o_bipush X0 hx (hb hby d_prog_28_method_5_code_11) (v := (8 : Int32)) rfl (n := 13) rfl ?_
  refine o_lshl X0 hx (hb hby d_prog_28_method_5_code_13) (v := ((o_st (o_st (o_st (o_st (o_st (o_st (o_st (0 : Int64) (w0 &&& (255 : Int32))) (w1 &&& (255 : Int32))) (w2 &&& (255 : Int32))) (w3 &&& (255 : Int32))) (w4 &&& (255 : Int32))) (w5 &&& (255 : Int32))) (0 : Int32)) <<< (8 : Int64))) rfl (n := 14) rfl ?_
  refine o_iloadN X0 hx (hb hby d_prog_28_method_5_code_14) (v := (7 : Int32)) rfl (n := 15) rfl ?_
  refine o_aloadN X0 hx (hb hby d_prog_28_method_5_code_15) (v := (.ref a1)) rfl rfl (n := 16) rfl ?_
  refine o_arraylength X0 hx hZ e0 pV_a1 (hb hby d_prog_28_method_5_code_16) (n := 17) rfl ?_
  refine o_icmpY X0 hx (hb hby d_prog_28_method_5_code_17) (XT.ii_ge_t (by decide)) (by decide) (n := 30) (by decide) ?_
  refine o_iconst X0 hx (hb hby d_prog_28_method_5_code_30) (v := (0 : Int32)) rfl (n := 31) rfl ?_
  refine o_i2l X0 hx (hb hby d_prog_28_method_5_code_31) (v := (0 : Int64)) (by decide) (n := 32) rfl ?_
  refine o_lor X0 hx (hb hby d_prog_28_method_5_code_32) (v := (o_st (o_st (o_st (o_st (o_st (o_st (o_st (o_st (0 : Int64) (w0 &&& (255 : Int32))) (w1 &&& (255 : Int32))) (w2 &&& (255 : Int32))) (w3 &&& (255 : Int32))) (w4 &&& (255 : Int32))) (w5 &&& (255 : Int32))) (0 : Int32)) (0 : Int32))) rfl (n := 33) rfl ?_
  refine o_lstoreN X0 hx (hb hby d_prog_28_method_5_code_33) (Ls' := #[.val (.ref a1), .val (.long (o_st (o_st (o_st (o_st (o_st (o_st (o_st (o_st (0 : Int64) (w0 &&& (255 : Int32))) (w1 &&& (255 : Int32))) (w2 &&& (255 : Int32))) (w3 &&& (255 : Int32))) (w4 &&& (255 : Int32))) (w5 &&& (255 : Int32))) (0 : Int32)) (0 : Int32))), .second, .val (.int (7 : Int32))]) rfl (n := 34) rfl ?_
  refine o_iinc X0 hx (hb hby d_prog_28_method_5_code_34) (w := (8 : Int32)) rfl (by decide) (Ls' := #[.val (.ref a1), .val (.long (o_st (o_st (o_st (o_st (o_st (o_st (o_st (o_st (0 : Int64) (w0 &&& (255 : Int32))) (w1 &&& (255 : Int32))) (w2 &&& (255 : Int32))) (w3 &&& (255 : Int32))) (w4 &&& (255 : Int32))) (w5 &&& (255 : Int32))) (0 : Int32)) (0 : Int32))), .second, .val (.int (8 : Int32))]) rfl (n := 37) rfl ?_
  refine o_goto X0 hx (hb hby d_prog_28_method_5_code_37) (by decide) (n := 4) (by decide) ?_
  refine o_iloadN X0 hx (hb hby d_prog_28_method_5_code_4) (v := (8 : Int32)) rfl (n := 5) rfl ?_
  refine o_bipush X0 hx (hb hby d_prog_28_method_5_code_5) (v := (8 : Int32)) rfl (n := 7) rfl ?_
  refine o_icmpY X0 hx (hb hby d_prog_28_method_5_code_7) (XT.ii_ge_t (by decide)) (by decide) (n := 40) (by decide) ?_
  refine o_lloadN X0 hx (hb hby d_prog_28_method_5_code_40) (v := (o_st (o_st (o_st (o_st (o_st (o_st (o_st (o_st (0 : Int64) (w0 &&& (255 : Int32))) (w1 &&& (255 : Int32))) (w2 &&& (255 : Int32))) (w3 &&& (255 : Int32))) (w4 &&& (255 : Int32))) (w5 &&& (255 : Int32))) (0 : Int32)) (0 : Int32))) rfl (n := 41) rfl ?_
  exact o_lreturn X0 hx hret hlk (hb hby d_prog_28_method_5_code_41) (by decide) (by decide) e0 ⟨rfl, rfl, rfl⟩
theorem o_ef14 (m : MethodId) (p0 : Int64) : entryFrame m #[(.long p0), (.int (6 : Int32))] 3 = mkF m 0 #[.val (.long p0), .second, .val (.int (6 : Int32))] [] := by first | (simp [entryFrame, mkF, argsToLocals, Value.category]; done) | rfl
set_option maxRecDepth 65536 in
set_option maxHeartbeats 40000000 in
theorem c_exp_6 (l : Launch) (Z : State) (a0 : Array Value) (hw : ∀ d ∈ tables_1, d.before a0 Z = true) (p0 : Int64) (h0 : Heap) :
    Does l Z (⟨"com/example/variform/variform/variant/Utf8HeadPinLaw", "expected", "(JI)J"⟩ : MethodName) method_2_code 3 (some .long) [] ({ frames := 0, cells := 0, slots := 0, locals := 0 } : Room) #[(.long p0), (.int (6 : Int32))] h0 (Pur h0 (.long (p0 &&& (-65536 : Int64)))) := by
  refine Does.of (plainFor_of_name o_pn1) ?_
  intro p e s m below meth c T0 hx hby hml hown hnm hret hlk hZ X0 e0
  have hown : s.vm.findClass "com/example/variform/variform/variant/Utf8HeadPinLaw" = some m.cls := hown
  have hml : c.maxLocals = 3 := hml
  have hret : meth.sig.returnType = some .long := hret
  refine o_entry (o_ef14 m p0) ?_
  refine o_iloadN X0 hx (hb hby d_method_2_code_0) (v := (6 : Int32)) rfl (n := 1) rfl ?_
  refine o_ifY X0 hx (hb hby d_method_2_code_1) (XT.i0_ne_t (by decide)) (by decide) (n := 6) (by decide) ?_
  refine o_iloadN X0 hx (hb hby d_method_2_code_6) (v := (6 : Int32)) rfl (n := 7) rfl ?_
  refine o_bipush X0 hx (hb hby d_method_2_code_7) (v := (8 : Int32)) rfl (n := 9) rfl ?_
  refine o_icmpY X0 hx (hb hby d_method_2_code_9) (XT.ii_lt_t (by decide)) (by decide) (n := 14) (by decide) ?_
  refine o_lloadN X0 hx (hb hby d_method_2_code_14) (v := p0) rfl (n := 15) rfl ?_
  refine o_ldc2_w X0 hx hZ (v := (-1 : Int64)) hown (hw _ (List.mem_of_getElem? (i := 10) rfl)) (hb hby d_method_2_code_15) (n := 18) rfl ?_
  refine o_bipush X0 hx (hb hby d_method_2_code_18) (v := (8 : Int32)) rfl (n := 20) rfl ?_
  refine o_bipush X0 hx (hb hby d_method_2_code_20) (v := (8 : Int32)) rfl (n := 22) rfl ?_
  refine o_iloadN X0 hx (hb hby d_method_2_code_22) (v := (6 : Int32)) rfl (n := 23) rfl ?_
  refine o_isub X0 hx (hb hby d_method_2_code_23) (v := (2 : Int32)) (by decide) (n := 24) rfl ?_
  refine o_imul X0 hx (hb hby d_method_2_code_24) (v := (16 : Int32)) (by decide) (n := 25) rfl ?_
  refine o_lshl X0 hx (hb hby d_method_2_code_25) (v := (-65536 : Int64)) (by decide) (n := 26) rfl ?_
  refine o_land X0 hx (hb hby d_method_2_code_26) (v := (p0 &&& (-65536 : Int64))) rfl (n := 27) rfl ?_
  exact o_lreturn X0 hx hret hlk (hb hby d_method_2_code_27) (by decide) (by decide) e0 ⟨rfl, rfl, rfl⟩
theorem o_ef15 (m : MethodId) (a1 : Addr) : entryFrame m #[(.ref a1)] 4 = mkF m 0 #[.val (.ref a1), .unset, .unset, .unset] [] := by first | (simp [entryFrame, mkF, argsToLocals, Value.category]; done) | rfl
set_option maxRecDepth 65536 in
set_option maxHeartbeats 40000000 in
theorem c_head_7 (l : Launch) (Z : State) (a0 : Array Value) (hw : ∀ d ∈ tables_1, d.before a0 Z = true) (a1 : Addr) (k1 : ClassId) (w0 : Int32) (w1 : Int32) (w2 : Int32) (w3 : Int32) (w4 : Int32) (w5 : Int32) (w6 : Int32) (h0 : Heap) (pV_a1 : Arv Z h0 a1 k1 .byte (7 : Int32) [(.int w0), (.int w1), (.int w2), (.int w3), (.int w4), (.int w5), (.int w6)] (.int (0 : Int32))) :
    Does l Z (⟨"com/example/variform/variform/variant/Utf8", "head", "([B)J"⟩ : MethodName) prog_28_method_5_code 4 (some .long) [] ({ frames := 0, cells := 0, slots := 0, locals := 0 } : Room) #[(.ref a1)] h0 (Pur h0 (.long (o_st (o_st (o_st (o_st (o_st (o_st (o_st (o_st (0 : Int64) (w0 &&& (255 : Int32))) (w1 &&& (255 : Int32))) (w2 &&& (255 : Int32))) (w3 &&& (255 : Int32))) (w4 &&& (255 : Int32))) (w5 &&& (255 : Int32))) (w6 &&& (255 : Int32))) (0 : Int32)))) := by
  refine Does.of (plainFor_of_name o_pn0) ?_
  intro p e s m below meth c T0 hx hby hml hown hnm hret hlk hZ X0 e0
  have hown : s.vm.findClass "com/example/variform/variform/variant/Utf8" = some m.cls := hown
  have hml : c.maxLocals = 4 := hml
  have hret : meth.sig.returnType = some .long := hret
  refine o_entry (o_ef15 m a1) ?_
  refine o_lconst X0 hx (hb hby d_prog_28_method_5_code_0) (v := (0 : Int64)) rfl (n := 1) rfl ?_
  refine o_lstoreN X0 hx (hb hby d_prog_28_method_5_code_1) (Ls' := #[.val (.ref a1), .val (.long (0 : Int64)), .second, .unset]) rfl (n := 2) rfl ?_
  refine o_iconst X0 hx (hb hby d_prog_28_method_5_code_2) (v := (0 : Int32)) rfl (n := 3) rfl ?_
  refine o_istoreN X0 hx (hb hby d_prog_28_method_5_code_3) (Ls' := #[.val (.ref a1), .val (.long (0 : Int64)), .second, .val (.int (0 : Int32))]) rfl (n := 4) rfl ?_
  refine o_iloadN X0 hx (hb hby d_prog_28_method_5_code_4) (v := (0 : Int32)) rfl (n := 5) rfl ?_
  refine o_bipush X0 hx (hb hby d_prog_28_method_5_code_5) (v := (8 : Int32)) rfl (n := 7) rfl ?_
  refine o_icmpN X0 hx (hb hby d_prog_28_method_5_code_7) (XT.ii_ge_f (by decide)) (n := 10) rfl ?_
  refine o_lloadN X0 hx (hb hby d_prog_28_method_5_code_10) (v := (0 : Int64)) rfl (n := 11) rfl ?_
  refine o_bipush X0 hx (hb hby d_prog_28_method_5_code_11) (v := (8 : Int32)) rfl (n := 13) rfl ?_
  refine o_lshl X0 hx (hb hby d_prog_28_method_5_code_13) (v := ((0 : Int64) <<< (8 : Int64))) rfl (n := 14) rfl ?_
  refine o_iloadN X0 hx (hb hby d_prog_28_method_5_code_14) (v := (0 : Int32)) rfl (n := 15) rfl ?_
  refine o_aloadN X0 hx (hb hby d_prog_28_method_5_code_15) (v := (.ref a1)) rfl rfl (n := 16) rfl ?_
  refine o_arraylength X0 hx hZ e0 pV_a1 (hb hby d_prog_28_method_5_code_16) (n := 17) rfl ?_
  refine o_icmpN X0 hx (hb hby d_prog_28_method_5_code_17) (XT.ii_ge_f (by decide)) (n := 20) rfl ?_
  refine o_aloadN X0 hx (hb hby d_prog_28_method_5_code_20) (v := (.ref a1)) rfl rfl (n := 21) rfl ?_
  refine o_iloadN X0 hx (hb hby d_prog_28_method_5_code_21) (v := (0 : Int32)) rfl (n := 22) rfl ?_
  refine o_baload X0 hx hZ e0 pV_a1 (0) (by decide) (by decide) (v := (.int w0)) rfl (hb hby d_prog_28_method_5_code_22) (n := 23) rfl ?_
  refine o_sipush X0 hx (hb hby d_prog_28_method_5_code_23) (v := (255 : Int32)) rfl (n := 26) rfl ?_
  refine o_iand X0 hx (hb hby d_prog_28_method_5_code_26) (v := (w0 &&& (255 : Int32))) rfl (n := 27) rfl ?_
  refine o_goto X0 hx (hb hby d_prog_28_method_5_code_27) (by decide) (n := 31) (by decide) ?_
  refine o_i2l X0 hx (hb hby d_prog_28_method_5_code_31) (v := (w0 &&& (255 : Int32)).toInt64) rfl (n := 32) rfl ?_
  refine o_lor X0 hx (hb hby d_prog_28_method_5_code_32) (v := (o_st (0 : Int64) (w0 &&& (255 : Int32)))) rfl (n := 33) rfl ?_
  refine o_lstoreN X0 hx (hb hby d_prog_28_method_5_code_33) (Ls' := #[.val (.ref a1), .val (.long (o_st (0 : Int64) (w0 &&& (255 : Int32)))), .second, .val (.int (0 : Int32))]) rfl (n := 34) rfl ?_
  refine o_iinc X0 hx (hb hby d_prog_28_method_5_code_34) (w := (1 : Int32)) rfl (by decide) (Ls' := #[.val (.ref a1), .val (.long (o_st (0 : Int64) (w0 &&& (255 : Int32)))), .second, .val (.int (1 : Int32))]) rfl (n := 37) rfl ?_
  refine o_goto X0 hx (hb hby d_prog_28_method_5_code_37) (by decide) (n := 4) (by decide) ?_
  refine o_iloadN X0 hx (hb hby d_prog_28_method_5_code_4) (v := (1 : Int32)) rfl (n := 5) rfl ?_
  refine o_bipush X0 hx (hb hby d_prog_28_method_5_code_5) (v := (8 : Int32)) rfl (n := 7) rfl ?_
  refine o_icmpN X0 hx (hb hby d_prog_28_method_5_code_7) (XT.ii_ge_f (by decide)) (n := 10) rfl ?_
  refine o_lloadN X0 hx (hb hby d_prog_28_method_5_code_10) (v := (o_st (0 : Int64) (w0 &&& (255 : Int32)))) rfl (n := 11) rfl ?_
  refine o_bipush X0 hx (hb hby d_prog_28_method_5_code_11) (v := (8 : Int32)) rfl (n := 13) rfl ?_
  refine o_lshl X0 hx (hb hby d_prog_28_method_5_code_13) (v := ((o_st (0 : Int64) (w0 &&& (255 : Int32))) <<< (8 : Int64))) rfl (n := 14) rfl ?_
  refine o_iloadN X0 hx (hb hby d_prog_28_method_5_code_14) (v := (1 : Int32)) rfl (n := 15) rfl ?_
  refine o_aloadN X0 hx (hb hby d_prog_28_method_5_code_15) (v := (.ref a1)) rfl rfl (n := 16) rfl ?_
  refine o_arraylength X0 hx hZ e0 pV_a1 (hb hby d_prog_28_method_5_code_16) (n := 17) rfl ?_
  refine o_icmpN X0 hx (hb hby d_prog_28_method_5_code_17) (XT.ii_ge_f (by decide)) (n := 20) rfl ?_
  refine o_aloadN X0 hx (hb hby d_prog_28_method_5_code_20) (v := (.ref a1)) rfl rfl (n := 21) rfl ?_
  refine o_iloadN X0 hx (hb hby d_prog_28_method_5_code_21) (v := (1 : Int32)) rfl (n := 22) rfl ?_
  refine o_baload X0 hx hZ e0 pV_a1 (1) (by decide) (by decide) (v := (.int w1)) rfl (hb hby d_prog_28_method_5_code_22) (n := 23) rfl ?_
  refine o_sipush X0 hx (hb hby d_prog_28_method_5_code_23) (v := (255 : Int32)) rfl (n := 26) rfl ?_
  refine o_iand X0 hx (hb hby d_prog_28_method_5_code_26) (v := (w1 &&& (255 : Int32))) rfl (n := 27) rfl ?_
  refine o_goto X0 hx (hb hby d_prog_28_method_5_code_27) (by decide) (n := 31) (by decide) ?_
  refine o_i2l X0 hx (hb hby d_prog_28_method_5_code_31) (v := (w1 &&& (255 : Int32)).toInt64) rfl (n := 32) rfl ?_
  refine o_lor X0 hx (hb hby d_prog_28_method_5_code_32) (v := (o_st (o_st (0 : Int64) (w0 &&& (255 : Int32))) (w1 &&& (255 : Int32)))) rfl (n := 33) rfl ?_
  refine o_lstoreN X0 hx (hb hby d_prog_28_method_5_code_33) (Ls' := #[.val (.ref a1), .val (.long (o_st (o_st (0 : Int64) (w0 &&& (255 : Int32))) (w1 &&& (255 : Int32)))), .second, .val (.int (1 : Int32))]) rfl (n := 34) rfl ?_
  refine o_iinc X0 hx (hb hby d_prog_28_method_5_code_34) (w := (2 : Int32)) rfl (by decide) (Ls' := #[.val (.ref a1), .val (.long (o_st (o_st (0 : Int64) (w0 &&& (255 : Int32))) (w1 &&& (255 : Int32)))), .second, .val (.int (2 : Int32))]) rfl (n := 37) rfl ?_
  refine o_goto X0 hx (hb hby d_prog_28_method_5_code_37) (by decide) (n := 4) (by decide) ?_
  refine o_iloadN X0 hx (hb hby d_prog_28_method_5_code_4) (v := (2 : Int32)) rfl (n := 5) rfl ?_
  refine o_bipush X0 hx (hb hby d_prog_28_method_5_code_5) (v := (8 : Int32)) rfl (n := 7) rfl ?_
  refine o_icmpN X0 hx (hb hby d_prog_28_method_5_code_7) (XT.ii_ge_f (by decide)) (n := 10) rfl ?_
  refine o_lloadN X0 hx (hb hby d_prog_28_method_5_code_10) (v := (o_st (o_st (0 : Int64) (w0 &&& (255 : Int32))) (w1 &&& (255 : Int32)))) rfl (n := 11) rfl ?_
  refine o_bipush X0 hx (hb hby d_prog_28_method_5_code_11) (v := (8 : Int32)) rfl (n := 13) rfl ?_
  refine o_lshl X0 hx (hb hby d_prog_28_method_5_code_13) (v := ((o_st (o_st (0 : Int64) (w0 &&& (255 : Int32))) (w1 &&& (255 : Int32))) <<< (8 : Int64))) rfl (n := 14) rfl ?_
  refine o_iloadN X0 hx (hb hby d_prog_28_method_5_code_14) (v := (2 : Int32)) rfl (n := 15) rfl ?_
  refine o_aloadN X0 hx (hb hby d_prog_28_method_5_code_15) (v := (.ref a1)) rfl rfl (n := 16) rfl ?_
  refine o_arraylength X0 hx hZ e0 pV_a1 (hb hby d_prog_28_method_5_code_16) (n := 17) rfl ?_
  refine o_icmpN X0 hx (hb hby d_prog_28_method_5_code_17) (XT.ii_ge_f (by decide)) (n := 20) rfl ?_
  refine o_aloadN X0 hx (hb hby d_prog_28_method_5_code_20) (v := (.ref a1)) rfl rfl (n := 21) rfl ?_
  refine o_iloadN X0 hx (hb hby d_prog_28_method_5_code_21) (v := (2 : Int32)) rfl (n := 22) rfl ?_
  refine o_baload X0 hx hZ e0 pV_a1 (2) (by decide) (by decide) (v := (.int w2)) rfl (hb hby d_prog_28_method_5_code_22) (n := 23) rfl ?_
  refine o_sipush X0 hx (hb hby d_prog_28_method_5_code_23) (v := (255 : Int32)) rfl (n := 26) rfl ?_
  refine o_iand X0 hx (hb hby d_prog_28_method_5_code_26) (v := (w2 &&& (255 : Int32))) rfl (n := 27) rfl ?_
  refine o_goto X0 hx (hb hby d_prog_28_method_5_code_27) (by decide) (n := 31) (by decide) ?_
  refine o_i2l X0 hx (hb hby d_prog_28_method_5_code_31) (v := (w2 &&& (255 : Int32)).toInt64) rfl (n := 32) rfl ?_
  refine o_lor X0 hx (hb hby d_prog_28_method_5_code_32) (v := (o_st (o_st (o_st (0 : Int64) (w0 &&& (255 : Int32))) (w1 &&& (255 : Int32))) (w2 &&& (255 : Int32)))) rfl (n := 33) rfl ?_
  refine o_lstoreN X0 hx (hb hby d_prog_28_method_5_code_33) (Ls' := #[.val (.ref a1), .val (.long (o_st (o_st (o_st (0 : Int64) (w0 &&& (255 : Int32))) (w1 &&& (255 : Int32))) (w2 &&& (255 : Int32)))), .second, .val (.int (2 : Int32))]) rfl (n := 34) rfl ?_
  refine o_iinc X0 hx (hb hby d_prog_28_method_5_code_34) (w := (3 : Int32)) rfl (by decide) (Ls' := #[.val (.ref a1), .val (.long (o_st (o_st (o_st (0 : Int64) (w0 &&& (255 : Int32))) (w1 &&& (255 : Int32))) (w2 &&& (255 : Int32)))), .second, .val (.int (3 : Int32))]) rfl (n := 37) rfl ?_
  refine o_goto X0 hx (hb hby d_prog_28_method_5_code_37) (by decide) (n := 4) (by decide) ?_
  refine o_iloadN X0 hx (hb hby d_prog_28_method_5_code_4) (v := (3 : Int32)) rfl (n := 5) rfl ?_
  refine o_bipush X0 hx (hb hby d_prog_28_method_5_code_5) (v := (8 : Int32)) rfl (n := 7) rfl ?_
  refine o_icmpN X0 hx (hb hby d_prog_28_method_5_code_7) (XT.ii_ge_f (by decide)) (n := 10) rfl ?_
  refine o_lloadN X0 hx (hb hby d_prog_28_method_5_code_10) (v := (o_st (o_st (o_st (0 : Int64) (w0 &&& (255 : Int32))) (w1 &&& (255 : Int32))) (w2 &&& (255 : Int32)))) rfl (n := 11) rfl ?_
  refine o_bipush X0 hx (hb hby d_prog_28_method_5_code_11) (v := (8 : Int32)) rfl (n := 13) rfl ?_
  refine o_lshl X0 hx (hb hby d_prog_28_method_5_code_13) (v := ((o_st (o_st (o_st (0 : Int64) (w0 &&& (255 : Int32))) (w1 &&& (255 : Int32))) (w2 &&& (255 : Int32))) <<< (8 : Int64))) rfl (n := 14) rfl ?_
  refine o_iloadN X0 hx (hb hby d_prog_28_method_5_code_14) (v := (3 : Int32)) rfl (n := 15) rfl ?_
  refine o_aloadN X0 hx (hb hby d_prog_28_method_5_code_15) (v := (.ref a1)) rfl rfl (n := 16) rfl ?_
  refine o_arraylength X0 hx hZ e0 pV_a1 (hb hby d_prog_28_method_5_code_16) (n := 17) rfl ?_
  refine o_icmpN X0 hx (hb hby d_prog_28_method_5_code_17) (XT.ii_ge_f (by decide)) (n := 20) rfl ?_
  refine o_aloadN X0 hx (hb hby d_prog_28_method_5_code_20) (v := (.ref a1)) rfl rfl (n := 21) rfl ?_
  refine o_iloadN X0 hx (hb hby d_prog_28_method_5_code_21) (v := (3 : Int32)) rfl (n := 22) rfl ?_
  refine o_baload X0 hx hZ e0 pV_a1 (3) (by decide) (by decide) (v := (.int w3)) rfl (hb hby d_prog_28_method_5_code_22) (n := 23) rfl ?_
  refine o_sipush X0 hx (hb hby d_prog_28_method_5_code_23) (v := (255 : Int32)) rfl (n := 26) rfl ?_
  refine o_iand X0 hx (hb hby d_prog_28_method_5_code_26) (v := (w3 &&& (255 : Int32))) rfl (n := 27) rfl ?_
  refine o_goto X0 hx (hb hby d_prog_28_method_5_code_27) (by decide) (n := 31) (by decide) ?_
  refine o_i2l X0 hx (hb hby d_prog_28_method_5_code_31) (v := (w3 &&& (255 : Int32)).toInt64) rfl (n := 32) rfl ?_
  refine o_lor X0 hx (hb hby d_prog_28_method_5_code_32) (v := (o_st (o_st (o_st (o_st (0 : Int64) (w0 &&& (255 : Int32))) (w1 &&& (255 : Int32))) (w2 &&& (255 : Int32))) (w3 &&& (255 : Int32)))) rfl (n := 33) rfl ?_
  refine o_lstoreN X0 hx (hb hby d_prog_28_method_5_code_33) (Ls' := #[.val (.ref a1), .val (.long (o_st (o_st (o_st (o_st (0 : Int64) (w0 &&& (255 : Int32))) (w1 &&& (255 : Int32))) (w2 &&& (255 : Int32))) (w3 &&& (255 : Int32)))), .second, .val (.int (3 : Int32))]) rfl (n := 34) rfl ?_
  refine o_iinc X0 hx (hb hby d_prog_28_method_5_code_34) (w := (4 : Int32)) rfl (by decide) (Ls' := #[.val (.ref a1), .val (.long (o_st (o_st (o_st (o_st (0 : Int64) (w0 &&& (255 : Int32))) (w1 &&& (255 : Int32))) (w2 &&& (255 : Int32))) (w3 &&& (255 : Int32)))), .second, .val (.int (4 : Int32))]) rfl (n := 37) rfl ?_
  refine o_goto X0 hx (hb hby d_prog_28_method_5_code_37) (by decide) (n := 4) (by decide) ?_
  refine o_iloadN X0 hx (hb hby d_prog_28_method_5_code_4) (v := (4 : Int32)) rfl (n := 5) rfl ?_
  refine o_bipush X0 hx (hb hby d_prog_28_method_5_code_5) (v := (8 : Int32)) rfl (n := 7) rfl ?_
  refine o_icmpN X0 hx (hb hby d_prog_28_method_5_code_7) (XT.ii_ge_f (by decide)) (n := 10) rfl ?_
  refine o_lloadN X0 hx (hb hby d_prog_28_method_5_code_10) (v := (o_st (o_st (o_st (o_st (0 : Int64) (w0 &&& (255 : Int32))) (w1 &&& (255 : Int32))) (w2 &&& (255 : Int32))) (w3 &&& (255 : Int32)))) rfl (n := 11) rfl ?_
  refine o_bipush X0 hx (hb hby d_prog_28_method_5_code_11) (v := (8 : Int32)) rfl (n := 13) rfl ?_
  refine o_lshl X0 hx (hb hby d_prog_28_method_5_code_13) (v := ((o_st (o_st (o_st (o_st (0 : Int64) (w0 &&& (255 : Int32))) (w1 &&& (255 : Int32))) (w2 &&& (255 : Int32))) (w3 &&& (255 : Int32))) <<< (8 : Int64))) rfl (n := 14) rfl ?_
  refine o_iloadN X0 hx (hb hby d_prog_28_method_5_code_14) (v := (4 : Int32)) rfl (n := 15) rfl ?_
  refine o_aloadN X0 hx (hb hby d_prog_28_method_5_code_15) (v := (.ref a1)) rfl rfl (n := 16) rfl ?_
  refine o_arraylength X0 hx hZ e0 pV_a1 (hb hby d_prog_28_method_5_code_16) (n := 17) rfl ?_
  refine o_icmpN X0 hx (hb hby d_prog_28_method_5_code_17) (XT.ii_ge_f (by decide)) (n := 20) rfl ?_
  refine o_aloadN X0 hx (hb hby d_prog_28_method_5_code_20) (v := (.ref a1)) rfl rfl (n := 21) rfl ?_
  refine o_iloadN X0 hx (hb hby d_prog_28_method_5_code_21) (v := (4 : Int32)) rfl (n := 22) rfl ?_
  refine o_baload X0 hx hZ e0 pV_a1 (4) (by decide) (by decide) (v := (.int w4)) rfl (hb hby d_prog_28_method_5_code_22) (n := 23) rfl ?_
  refine o_sipush X0 hx (hb hby d_prog_28_method_5_code_23) (v := (255 : Int32)) rfl (n := 26) rfl ?_
  refine o_iand X0 hx (hb hby d_prog_28_method_5_code_26) (v := (w4 &&& (255 : Int32))) rfl (n := 27) rfl ?_
  refine o_goto X0 hx (hb hby d_prog_28_method_5_code_27) (by decide) (n := 31) (by decide) ?_
  refine o_i2l X0 hx (hb hby d_prog_28_method_5_code_31) (v := (w4 &&& (255 : Int32)).toInt64) rfl (n := 32) rfl ?_
  refine o_lor X0 hx (hb hby d_prog_28_method_5_code_32) (v := (o_st (o_st (o_st (o_st (o_st (0 : Int64) (w0 &&& (255 : Int32))) (w1 &&& (255 : Int32))) (w2 &&& (255 : Int32))) (w3 &&& (255 : Int32))) (w4 &&& (255 : Int32)))) rfl (n := 33) rfl ?_
  refine o_lstoreN X0 hx (hb hby d_prog_28_method_5_code_33) (Ls' := #[.val (.ref a1), .val (.long (o_st (o_st (o_st (o_st (o_st (0 : Int64) (w0 &&& (255 : Int32))) (w1 &&& (255 : Int32))) (w2 &&& (255 : Int32))) (w3 &&& (255 : Int32))) (w4 &&& (255 : Int32)))), .second, .val (.int (4 : Int32))]) rfl (n := 34) rfl ?_
  refine o_iinc X0 hx (hb hby d_prog_28_method_5_code_34) (w := (5 : Int32)) rfl (by decide) (Ls' := #[.val (.ref a1), .val (.long (o_st (o_st (o_st (o_st (o_st (0 : Int64) (w0 &&& (255 : Int32))) (w1 &&& (255 : Int32))) (w2 &&& (255 : Int32))) (w3 &&& (255 : Int32))) (w4 &&& (255 : Int32)))), .second, .val (.int (5 : Int32))]) rfl (n := 37) rfl ?_
  refine o_goto X0 hx (hb hby d_prog_28_method_5_code_37) (by decide) (n := 4) (by decide) ?_
  refine o_iloadN X0 hx (hb hby d_prog_28_method_5_code_4) (v := (5 : Int32)) rfl (n := 5) rfl ?_
  refine o_bipush X0 hx (hb hby d_prog_28_method_5_code_5) (v := (8 : Int32)) rfl (n := 7) rfl ?_
  refine o_icmpN X0 hx (hb hby d_prog_28_method_5_code_7) (XT.ii_ge_f (by decide)) (n := 10) rfl ?_
  refine o_lloadN X0 hx (hb hby d_prog_28_method_5_code_10) (v := (o_st (o_st (o_st (o_st (o_st (0 : Int64) (w0 &&& (255 : Int32))) (w1 &&& (255 : Int32))) (w2 &&& (255 : Int32))) (w3 &&& (255 : Int32))) (w4 &&& (255 : Int32)))) rfl (n := 11) rfl ?_
  refine o_bipush X0 hx (hb hby d_prog_28_method_5_code_11) (v := (8 : Int32)) rfl (n := 13) rfl ?_
  refine o_lshl X0 hx (hb hby d_prog_28_method_5_code_13) (v := ((o_st (o_st (o_st (o_st (o_st (0 : Int64) (w0 &&& (255 : Int32))) (w1 &&& (255 : Int32))) (w2 &&& (255 : Int32))) (w3 &&& (255 : Int32))) (w4 &&& (255 : Int32))) <<< (8 : Int64))) rfl (n := 14) rfl ?_
  refine o_iloadN X0 hx (hb hby d_prog_28_method_5_code_14) (v := (5 : Int32)) rfl (n := 15) rfl ?_
  refine o_aloadN X0 hx (hb hby d_prog_28_method_5_code_15) (v := (.ref a1)) rfl rfl (n := 16) rfl ?_
  refine o_arraylength X0 hx hZ e0 pV_a1 (hb hby d_prog_28_method_5_code_16) (n := 17) rfl ?_
  refine o_icmpN X0 hx (hb hby d_prog_28_method_5_code_17) (XT.ii_ge_f (by decide)) (n := 20) rfl ?_
  refine o_aloadN X0 hx (hb hby d_prog_28_method_5_code_20) (v := (.ref a1)) rfl rfl (n := 21) rfl ?_
  refine o_iloadN X0 hx (hb hby d_prog_28_method_5_code_21) (v := (5 : Int32)) rfl (n := 22) rfl ?_
  refine o_baload X0 hx hZ e0 pV_a1 (5) (by decide) (by decide) (v := (.int w5)) rfl (hb hby d_prog_28_method_5_code_22) (n := 23) rfl ?_
  refine o_sipush X0 hx (hb hby d_prog_28_method_5_code_23) (v := (255 : Int32)) rfl (n := 26) rfl ?_
  refine o_iand X0 hx (hb hby d_prog_28_method_5_code_26) (v := (w5 &&& (255 : Int32))) rfl (n := 27) rfl ?_
  refine o_goto X0 hx (hb hby d_prog_28_method_5_code_27) (by decide) (n := 31) (by decide) ?_
  refine o_i2l X0 hx (hb hby d_prog_28_method_5_code_31) (v := (w5 &&& (255 : Int32)).toInt64) rfl (n := 32) rfl ?_
  refine o_lor X0 hx (hb hby d_prog_28_method_5_code_32) (v := (o_st (o_st (o_st (o_st (o_st (o_st (0 : Int64) (w0 &&& (255 : Int32))) (w1 &&& (255 : Int32))) (w2 &&& (255 : Int32))) (w3 &&& (255 : Int32))) (w4 &&& (255 : Int32))) (w5 &&& (255 : Int32)))) rfl (n := 33) rfl ?_
  refine o_lstoreN X0 hx (hb hby d_prog_28_method_5_code_33) (Ls' := #[.val (.ref a1), .val (.long (o_st (o_st (o_st (o_st (o_st (o_st (0 : Int64) (w0 &&& (255 : Int32))) (w1 &&& (255 : Int32))) (w2 &&& (255 : Int32))) (w3 &&& (255 : Int32))) (w4 &&& (255 : Int32))) (w5 &&& (255 : Int32)))), .second, .val (.int (5 : Int32))]) rfl (n := 34) rfl ?_
  refine o_iinc X0 hx (hb hby d_prog_28_method_5_code_34) (w := (6 : Int32)) rfl (by decide) (Ls' := #[.val (.ref a1), .val (.long (o_st (o_st (o_st (o_st (o_st (o_st (0 : Int64) (w0 &&& (255 : Int32))) (w1 &&& (255 : Int32))) (w2 &&& (255 : Int32))) (w3 &&& (255 : Int32))) (w4 &&& (255 : Int32))) (w5 &&& (255 : Int32)))), .second, .val (.int (6 : Int32))]) rfl (n := 37) rfl ?_
  refine o_goto X0 hx (hb hby d_prog_28_method_5_code_37) (by decide) (n := 4) (by decide) ?_
  refine o_iloadN X0 hx (hb hby d_prog_28_method_5_code_4) (v := (6 : Int32)) rfl (n := 5) rfl ?_
  refine o_bipush X0 hx (hb hby d_prog_28_method_5_code_5) (v := (8 : Int32)) rfl (n := 7) rfl ?_
  refine o_icmpN X0 hx (hb hby d_prog_28_method_5_code_7) (XT.ii_ge_f (by decide)) (n := 10) rfl ?_
  refine o_lloadN X0 hx (hb hby d_prog_28_method_5_code_10) (v := (o_st (o_st (o_st (o_st (o_st (o_st (0 : Int64) (w0 &&& (255 : Int32))) (w1 &&& (255 : Int32))) (w2 &&& (255 : Int32))) (w3 &&& (255 : Int32))) (w4 &&& (255 : Int32))) (w5 &&& (255 : Int32)))) rfl (n := 11) rfl ?_
  refine o_bipush X0 hx (hb hby d_prog_28_method_5_code_11) (v := (8 : Int32)) rfl (n := 13) rfl ?_
  refine o_lshl X0 hx (hb hby d_prog_28_method_5_code_13) (v := ((o_st (o_st (o_st (o_st (o_st (o_st (0 : Int64) (w0 &&& (255 : Int32))) (w1 &&& (255 : Int32))) (w2 &&& (255 : Int32))) (w3 &&& (255 : Int32))) (w4 &&& (255 : Int32))) (w5 &&& (255 : Int32))) <<< (8 : Int64))) rfl (n := 14) rfl ?_
  refine o_iloadN X0 hx (hb hby d_prog_28_method_5_code_14) (v := (6 : Int32)) rfl (n := 15) rfl ?_
  refine o_aloadN X0 hx (hb hby d_prog_28_method_5_code_15) (v := (.ref a1)) rfl rfl (n := 16) rfl ?_
  refine o_arraylength X0 hx hZ e0 pV_a1 (hb hby d_prog_28_method_5_code_16) (n := 17) rfl ?_
  refine o_icmpN X0 hx (hb hby d_prog_28_method_5_code_17) (XT.ii_ge_f (by decide)) (n := 20) rfl ?_
  refine o_aloadN X0 hx (hb hby d_prog_28_method_5_code_20) (v := (.ref a1)) rfl rfl (n := 21) rfl ?_
  refine o_iloadN X0 hx (hb hby d_prog_28_method_5_code_21) (v := (6 : Int32)) rfl (n := 22) rfl ?_
  refine o_baload X0 hx hZ e0 pV_a1 (6) (by decide) (by decide) (v := (.int w6)) rfl (hb hby d_prog_28_method_5_code_22) (n := 23) rfl ?_
  refine o_sipush X0 hx (hb hby d_prog_28_method_5_code_23) (v := (255 : Int32)) rfl (n := 26) rfl ?_
  refine o_iand X0 hx (hb hby d_prog_28_method_5_code_26) (v := (w6 &&& (255 : Int32))) rfl (n := 27) rfl ?_
  refine o_goto X0 hx (hb hby d_prog_28_method_5_code_27) (by decide) (n := 31) (by decide) ?_
  refine o_i2l X0 hx (hb hby d_prog_28_method_5_code_31) (v := (w6 &&& (255 : Int32)).toInt64) rfl (n := 32) rfl ?_
  refine o_lor X0 hx (hb hby d_prog_28_method_5_code_32) (v := (o_st (o_st (o_st (o_st (o_st (o_st (o_st (0 : Int64) (w0 &&& (255 : Int32))) (w1 &&& (255 : Int32))) (w2 &&& (255 : Int32))) (w3 &&& (255 : Int32))) (w4 &&& (255 : Int32))) (w5 &&& (255 : Int32))) (w6 &&& (255 : Int32)))) rfl (n := 33) rfl ?_
  refine o_lstoreN X0 hx (hb hby d_prog_28_method_5_code_33) (Ls' := #[.val (.ref a1), .val (.long (o_st (o_st (o_st (o_st (o_st (o_st (o_st (0 : Int64) (w0 &&& (255 : Int32))) (w1 &&& (255 : Int32))) (w2 &&& (255 : Int32))) (w3 &&& (255 : Int32))) (w4 &&& (255 : Int32))) (w5 &&& (255 : Int32))) (w6 &&& (255 : Int32)))), .second, .val (.int (6 : Int32))]) rfl (n := 34) rfl ?_
  refine o_iinc X0 hx (hb hby d_prog_28_method_5_code_34) (w := (7 : Int32)) rfl (by decide) (Ls' := #[.val (.ref a1), .val (.long (o_st (o_st (o_st (o_st (o_st (o_st (o_st (0 : Int64) (w0 &&& (255 : Int32))) (w1 &&& (255 : Int32))) (w2 &&& (255 : Int32))) (w3 &&& (255 : Int32))) (w4 &&& (255 : Int32))) (w5 &&& (255 : Int32))) (w6 &&& (255 : Int32)))), .second, .val (.int (7 : Int32))]) rfl (n := 37) rfl ?_
  refine o_goto X0 hx (hb hby d_prog_28_method_5_code_37) (by decide) (n := 4) (by decide) ?_
  refine o_iloadN X0 hx (hb hby d_prog_28_method_5_code_4) (v := (7 : Int32)) rfl (n := 5) rfl ?_
  refine o_bipush X0 hx (hb hby d_prog_28_method_5_code_5) (v := (8 : Int32)) rfl (n := 7) rfl ?_
  refine o_icmpN X0 hx (hb hby d_prog_28_method_5_code_7) (XT.ii_ge_f (by decide)) (n := 10) rfl ?_
  refine o_lloadN X0 hx (hb hby d_prog_28_method_5_code_10) (v := (o_st (o_st (o_st (o_st (o_st (o_st (o_st (0 : Int64) (w0 &&& (255 : Int32))) (w1 &&& (255 : Int32))) (w2 &&& (255 : Int32))) (w3 &&& (255 : Int32))) (w4 &&& (255 : Int32))) (w5 &&& (255 : Int32))) (w6 &&& (255 : Int32)))) rfl (n := 11) rfl ?_
  refine o_bipush X0 hx (hb hby d_prog_28_method_5_code_11) (v := (8 : Int32)) rfl (n := 13) rfl ?_
  refine o_lshl X0 hx (hb hby d_prog_28_method_5_code_13) (v := ((o_st (o_st (o_st (o_st (o_st (o_st (o_st (0 : Int64) (w0 &&& (255 : Int32))) (w1 &&& (255 : Int32))) (w2 &&& (255 : Int32))) (w3 &&& (255 : Int32))) (w4 &&& (255 : Int32))) (w5 &&& (255 : Int32))) (w6 &&& (255 : Int32))) <<< (8 : Int64))) rfl (n := 14) rfl ?_
  refine o_iloadN X0 hx (hb hby d_prog_28_method_5_code_14) (v := (7 : Int32)) rfl (n := 15) rfl ?_
  refine o_aloadN X0 hx (hb hby d_prog_28_method_5_code_15) (v := (.ref a1)) rfl rfl (n := 16) rfl ?_
  refine o_arraylength X0 hx hZ e0 pV_a1 (hb hby d_prog_28_method_5_code_16) (n := 17) rfl ?_
  refine o_icmpY X0 hx (hb hby d_prog_28_method_5_code_17) (XT.ii_ge_t (by decide)) (by decide) (n := 30) (by decide) ?_
  refine o_iconst X0 hx (hb hby d_prog_28_method_5_code_30) (v := (0 : Int32)) rfl (n := 31) rfl ?_
  refine o_i2l X0 hx (hb hby d_prog_28_method_5_code_31) (v := (0 : Int64)) (by decide) (n := 32) rfl ?_
  refine o_lor X0 hx (hb hby d_prog_28_method_5_code_32) (v := (o_st (o_st (o_st (o_st (o_st (o_st (o_st (o_st (0 : Int64) (w0 &&& (255 : Int32))) (w1 &&& (255 : Int32))) (w2 &&& (255 : Int32))) (w3 &&& (255 : Int32))) (w4 &&& (255 : Int32))) (w5 &&& (255 : Int32))) (w6 &&& (255 : Int32))) (0 : Int32))) rfl (n := 33) rfl ?_
  refine o_lstoreN X0 hx (hb hby d_prog_28_method_5_code_33) (Ls' := #[.val (.ref a1), .val (.long (o_st (o_st (o_st (o_st (o_st (o_st (o_st (o_st (0 : Int64) (w0 &&& (255 : Int32))) (w1 &&& (255 : Int32))) (w2 &&& (255 : Int32))) (w3 &&& (255 : Int32))) (w4 &&& (255 : Int32))) (w5 &&& (255 : Int32))) (w6 &&& (255 : Int32))) (0 : Int32))), .second, .val (.int (7 : Int32))]) rfl (n := 34) rfl ?_
  refine o_iinc X0 hx (hb hby d_prog_28_method_5_code_34) (w := (8 : Int32)) rfl (by decide) (Ls' := #[.val (.ref a1), .val (.long (o_st (o_st (o_st (o_st (o_st (o_st (o_st (o_st (0 : Int64) (w0 &&& (255 : Int32))) (w1 &&& (255 : Int32))) (w2 &&& (255 : Int32))) (w3 &&& (255 : Int32))) (w4 &&& (255 : Int32))) (w5 &&& (255 : Int32))) (w6 &&& (255 : Int32))) (0 : Int32))), .second, .val (.int (8 : Int32))]) rfl (n := 37) rfl ?_
  refine o_goto X0 hx (hb hby d_prog_28_method_5_code_37) (by decide) (n := 4) (by decide) ?_
  refine o_iloadN X0 hx (hb hby d_prog_28_method_5_code_4) (v := (8 : Int32)) rfl (n := 5) rfl ?_
  refine o_bipush X0 hx (hb hby d_prog_28_method_5_code_5) (v := (8 : Int32)) rfl (n := 7) rfl ?_
  refine o_icmpY X0 hx (hb hby d_prog_28_method_5_code_7) (XT.ii_ge_t (by decide)) (by decide) (n := 40) (by decide) ?_
  refine o_lloadN X0 hx (hb hby d_prog_28_method_5_code_40) (v := (o_st (o_st (o_st (o_st (o_st (o_st (o_st (o_st (0 : Int64) (w0 &&& (255 : Int32))) (w1 &&& (255 : Int32))) (w2 &&& (255 : Int32))) (w3 &&& (255 : Int32))) (w4 &&& (255 : Int32))) (w5 &&& (255 : Int32))) (w6 &&& (255 : Int32))) (0 : Int32))) rfl (n := 41) rfl ?_
  exact o_lreturn X0 hx hret hlk (hb hby d_prog_28_method_5_code_41) (by decide) (by decide) e0 ⟨rfl, rfl, rfl⟩
theorem o_ef16 (m : MethodId) (p0 : Int64) : entryFrame m #[(.long p0), (.int (7 : Int32))] 3 = mkF m 0 #[.val (.long p0), .second, .val (.int (7 : Int32))] [] := by first | (simp [entryFrame, mkF, argsToLocals, Value.category]; done) | rfl
set_option maxRecDepth 65536 in
set_option maxHeartbeats 40000000 in
theorem c_exp_7 (l : Launch) (Z : State) (a0 : Array Value) (hw : ∀ d ∈ tables_1, d.before a0 Z = true) (p0 : Int64) (h0 : Heap) :
    Does l Z (⟨"com/example/variform/variform/variant/Utf8HeadPinLaw", "expected", "(JI)J"⟩ : MethodName) method_2_code 3 (some .long) [] ({ frames := 0, cells := 0, slots := 0, locals := 0 } : Room) #[(.long p0), (.int (7 : Int32))] h0 (Pur h0 (.long (p0 &&& (-256 : Int64)))) := by
  refine Does.of (plainFor_of_name o_pn1) ?_
  intro p e s m below meth c T0 hx hby hml hown hnm hret hlk hZ X0 e0
  have hown : s.vm.findClass "com/example/variform/variform/variant/Utf8HeadPinLaw" = some m.cls := hown
  have hml : c.maxLocals = 3 := hml
  have hret : meth.sig.returnType = some .long := hret
  refine o_entry (o_ef16 m p0) ?_
  refine o_iloadN X0 hx (hb hby d_method_2_code_0) (v := (7 : Int32)) rfl (n := 1) rfl ?_
  refine o_ifY X0 hx (hb hby d_method_2_code_1) (XT.i0_ne_t (by decide)) (by decide) (n := 6) (by decide) ?_
  refine o_iloadN X0 hx (hb hby d_method_2_code_6) (v := (7 : Int32)) rfl (n := 7) rfl ?_
  refine o_bipush X0 hx (hb hby d_method_2_code_7) (v := (8 : Int32)) rfl (n := 9) rfl ?_
  refine o_icmpY X0 hx (hb hby d_method_2_code_9) (XT.ii_lt_t (by decide)) (by decide) (n := 14) (by decide) ?_
  refine o_lloadN X0 hx (hb hby d_method_2_code_14) (v := p0) rfl (n := 15) rfl ?_
  refine o_ldc2_w X0 hx hZ (v := (-1 : Int64)) hown (hw _ (List.mem_of_getElem? (i := 10) rfl)) (hb hby d_method_2_code_15) (n := 18) rfl ?_
  refine o_bipush X0 hx (hb hby d_method_2_code_18) (v := (8 : Int32)) rfl (n := 20) rfl ?_
  refine o_bipush X0 hx (hb hby d_method_2_code_20) (v := (8 : Int32)) rfl (n := 22) rfl ?_
  refine o_iloadN X0 hx (hb hby d_method_2_code_22) (v := (7 : Int32)) rfl (n := 23) rfl ?_
  refine o_isub X0 hx (hb hby d_method_2_code_23) (v := (1 : Int32)) (by decide) (n := 24) rfl ?_
  refine o_imul X0 hx (hb hby d_method_2_code_24) (v := (8 : Int32)) (by decide) (n := 25) rfl ?_
  refine o_lshl X0 hx (hb hby d_method_2_code_25) (v := (-256 : Int64)) (by decide) (n := 26) rfl ?_
  refine o_land X0 hx (hb hby d_method_2_code_26) (v := (p0 &&& (-256 : Int64))) rfl (n := 27) rfl ?_
  exact o_lreturn X0 hx hret hlk (hb hby d_method_2_code_27) (by decide) (by decide) e0 ⟨rfl, rfl, rfl⟩
theorem o_ef17 (m : MethodId) (a1 : Addr) : entryFrame m #[(.ref a1)] 4 = mkF m 0 #[.val (.ref a1), .unset, .unset, .unset] [] := by first | (simp [entryFrame, mkF, argsToLocals, Value.category]; done) | rfl
set_option maxRecDepth 65536 in
set_option maxHeartbeats 40000000 in
theorem c_head_8 (l : Launch) (Z : State) (a0 : Array Value) (hw : ∀ d ∈ tables_1, d.before a0 Z = true) (a1 : Addr) (k1 : ClassId) (w0 : Int32) (w1 : Int32) (w2 : Int32) (w3 : Int32) (w4 : Int32) (w5 : Int32) (w6 : Int32) (w7 : Int32) (h0 : Heap) (pV_a1 : Arv Z h0 a1 k1 .byte (8 : Int32) [(.int w0), (.int w1), (.int w2), (.int w3), (.int w4), (.int w5), (.int w6), (.int w7)] (.int (0 : Int32))) :
    Does l Z (⟨"com/example/variform/variform/variant/Utf8", "head", "([B)J"⟩ : MethodName) prog_28_method_5_code 4 (some .long) [] ({ frames := 0, cells := 0, slots := 0, locals := 0 } : Room) #[(.ref a1)] h0 (Pur h0 (.long (o_st (o_st (o_st (o_st (o_st (o_st (o_st (o_st (0 : Int64) (w0 &&& (255 : Int32))) (w1 &&& (255 : Int32))) (w2 &&& (255 : Int32))) (w3 &&& (255 : Int32))) (w4 &&& (255 : Int32))) (w5 &&& (255 : Int32))) (w6 &&& (255 : Int32))) (w7 &&& (255 : Int32))))) := by
  refine Does.of (plainFor_of_name o_pn0) ?_
  intro p e s m below meth c T0 hx hby hml hown hnm hret hlk hZ X0 e0
  have hown : s.vm.findClass "com/example/variform/variform/variant/Utf8" = some m.cls := hown
  have hml : c.maxLocals = 4 := hml
  have hret : meth.sig.returnType = some .long := hret
  refine o_entry (o_ef17 m a1) ?_
  refine o_lconst X0 hx (hb hby d_prog_28_method_5_code_0) (v := (0 : Int64)) rfl (n := 1) rfl ?_
  refine o_lstoreN X0 hx (hb hby d_prog_28_method_5_code_1) (Ls' := #[.val (.ref a1), .val (.long (0 : Int64)), .second, .unset]) rfl (n := 2) rfl ?_
  refine o_iconst X0 hx (hb hby d_prog_28_method_5_code_2) (v := (0 : Int32)) rfl (n := 3) rfl ?_
  refine o_istoreN X0 hx (hb hby d_prog_28_method_5_code_3) (Ls' := #[.val (.ref a1), .val (.long (0 : Int64)), .second, .val (.int (0 : Int32))]) rfl (n := 4) rfl ?_
  refine o_iloadN X0 hx (hb hby d_prog_28_method_5_code_4) (v := (0 : Int32)) rfl (n := 5) rfl ?_
  refine o_bipush X0 hx (hb hby d_prog_28_method_5_code_5) (v := (8 : Int32)) rfl (n := 7) rfl ?_
  refine o_icmpN X0 hx (hb hby d_prog_28_method_5_code_7) (XT.ii_ge_f (by decide)) (n := 10) rfl ?_
  refine o_lloadN X0 hx (hb hby d_prog_28_method_5_code_10) (v := (0 : Int64)) rfl (n := 11) rfl ?_
  refine o_bipush X0 hx (hb hby d_prog_28_method_5_code_11) (v := (8 : Int32)) rfl (n := 13) rfl ?_
  refine o_lshl X0 hx (hb hby d_prog_28_method_5_code_13) (v := ((0 : Int64) <<< (8 : Int64))) rfl (n := 14) rfl ?_
  refine o_iloadN X0 hx (hb hby d_prog_28_method_5_code_14) (v := (0 : Int32)) rfl (n := 15) rfl ?_
  refine o_aloadN X0 hx (hb hby d_prog_28_method_5_code_15) (v := (.ref a1)) rfl rfl (n := 16) rfl ?_
  refine o_arraylength X0 hx hZ e0 pV_a1 (hb hby d_prog_28_method_5_code_16) (n := 17) rfl ?_
  refine o_icmpN X0 hx (hb hby d_prog_28_method_5_code_17) (XT.ii_ge_f (by decide)) (n := 20) rfl ?_
  refine o_aloadN X0 hx (hb hby d_prog_28_method_5_code_20) (v := (.ref a1)) rfl rfl (n := 21) rfl ?_
  refine o_iloadN X0 hx (hb hby d_prog_28_method_5_code_21) (v := (0 : Int32)) rfl (n := 22) rfl ?_
  refine o_baload X0 hx hZ e0 pV_a1 (0) (by decide) (by decide) (v := (.int w0)) rfl (hb hby d_prog_28_method_5_code_22) (n := 23) rfl ?_
  refine o_sipush X0 hx (hb hby d_prog_28_method_5_code_23) (v := (255 : Int32)) rfl (n := 26) rfl ?_
  refine o_iand X0 hx (hb hby d_prog_28_method_5_code_26) (v := (w0 &&& (255 : Int32))) rfl (n := 27) rfl ?_
  refine o_goto X0 hx (hb hby d_prog_28_method_5_code_27) (by decide) (n := 31) (by decide) ?_
  refine o_i2l X0 hx (hb hby d_prog_28_method_5_code_31) (v := (w0 &&& (255 : Int32)).toInt64) rfl (n := 32) rfl ?_
  refine o_lor X0 hx (hb hby d_prog_28_method_5_code_32) (v := (o_st (0 : Int64) (w0 &&& (255 : Int32)))) rfl (n := 33) rfl ?_
  refine o_lstoreN X0 hx (hb hby d_prog_28_method_5_code_33) (Ls' := #[.val (.ref a1), .val (.long (o_st (0 : Int64) (w0 &&& (255 : Int32)))), .second, .val (.int (0 : Int32))]) rfl (n := 34) rfl ?_
  refine o_iinc X0 hx (hb hby d_prog_28_method_5_code_34) (w := (1 : Int32)) rfl (by decide) (Ls' := #[.val (.ref a1), .val (.long (o_st (0 : Int64) (w0 &&& (255 : Int32)))), .second, .val (.int (1 : Int32))]) rfl (n := 37) rfl ?_
  refine o_goto X0 hx (hb hby d_prog_28_method_5_code_37) (by decide) (n := 4) (by decide) ?_
  refine o_iloadN X0 hx (hb hby d_prog_28_method_5_code_4) (v := (1 : Int32)) rfl (n := 5) rfl ?_
  refine o_bipush X0 hx (hb hby d_prog_28_method_5_code_5) (v := (8 : Int32)) rfl (n := 7) rfl ?_
  refine o_icmpN X0 hx (hb hby d_prog_28_method_5_code_7) (XT.ii_ge_f (by decide)) (n := 10) rfl ?_
  refine o_lloadN X0 hx (hb hby d_prog_28_method_5_code_10) (v := (o_st (0 : Int64) (w0 &&& (255 : Int32)))) rfl (n := 11) rfl ?_
  refine o_bipush X0 hx (hb hby d_prog_28_method_5_code_11) (v := (8 : Int32)) rfl (n := 13) rfl ?_
  refine o_lshl X0 hx (hb hby d_prog_28_method_5_code_13) (v := ((o_st (0 : Int64) (w0 &&& (255 : Int32))) <<< (8 : Int64))) rfl (n := 14) rfl ?_
  refine o_iloadN X0 hx (hb hby d_prog_28_method_5_code_14) (v := (1 : Int32)) rfl (n := 15) rfl ?_
  refine o_aloadN X0 hx (hb hby d_prog_28_method_5_code_15) (v := (.ref a1)) rfl rfl (n := 16) rfl ?_
  refine o_arraylength X0 hx hZ e0 pV_a1 (hb hby d_prog_28_method_5_code_16) (n := 17) rfl ?_
  refine o_icmpN X0 hx (hb hby d_prog_28_method_5_code_17) (XT.ii_ge_f (by decide)) (n := 20) rfl ?_
  refine o_aloadN X0 hx (hb hby d_prog_28_method_5_code_20) (v := (.ref a1)) rfl rfl (n := 21) rfl ?_
  refine o_iloadN X0 hx (hb hby d_prog_28_method_5_code_21) (v := (1 : Int32)) rfl (n := 22) rfl ?_
  refine o_baload X0 hx hZ e0 pV_a1 (1) (by decide) (by decide) (v := (.int w1)) rfl (hb hby d_prog_28_method_5_code_22) (n := 23) rfl ?_
  refine o_sipush X0 hx (hb hby d_prog_28_method_5_code_23) (v := (255 : Int32)) rfl (n := 26) rfl ?_
  refine o_iand X0 hx (hb hby d_prog_28_method_5_code_26) (v := (w1 &&& (255 : Int32))) rfl (n := 27) rfl ?_
  refine o_goto X0 hx (hb hby d_prog_28_method_5_code_27) (by decide) (n := 31) (by decide) ?_
  refine o_i2l X0 hx (hb hby d_prog_28_method_5_code_31) (v := (w1 &&& (255 : Int32)).toInt64) rfl (n := 32) rfl ?_
  refine o_lor X0 hx (hb hby d_prog_28_method_5_code_32) (v := (o_st (o_st (0 : Int64) (w0 &&& (255 : Int32))) (w1 &&& (255 : Int32)))) rfl (n := 33) rfl ?_
  refine o_lstoreN X0 hx (hb hby d_prog_28_method_5_code_33) (Ls' := #[.val (.ref a1), .val (.long (o_st (o_st (0 : Int64) (w0 &&& (255 : Int32))) (w1 &&& (255 : Int32)))), .second, .val (.int (1 : Int32))]) rfl (n := 34) rfl ?_
  refine o_iinc X0 hx (hb hby d_prog_28_method_5_code_34) (w := (2 : Int32)) rfl (by decide) (Ls' := #[.val (.ref a1), .val (.long (o_st (o_st (0 : Int64) (w0 &&& (255 : Int32))) (w1 &&& (255 : Int32)))), .second, .val (.int (2 : Int32))]) rfl (n := 37) rfl ?_
  refine o_goto X0 hx (hb hby d_prog_28_method_5_code_37) (by decide) (n := 4) (by decide) ?_
  refine o_iloadN X0 hx (hb hby d_prog_28_method_5_code_4) (v := (2 : Int32)) rfl (n := 5) rfl ?_
  refine o_bipush X0 hx (hb hby d_prog_28_method_5_code_5) (v := (8 : Int32)) rfl (n := 7) rfl ?_
  refine o_icmpN X0 hx (hb hby d_prog_28_method_5_code_7) (XT.ii_ge_f (by decide)) (n := 10) rfl ?_
  refine o_lloadN X0 hx (hb hby d_prog_28_method_5_code_10) (v := (o_st (o_st (0 : Int64) (w0 &&& (255 : Int32))) (w1 &&& (255 : Int32)))) rfl (n := 11) rfl ?_
  refine o_bipush X0 hx (hb hby d_prog_28_method_5_code_11) (v := (8 : Int32)) rfl (n := 13) rfl ?_
  refine o_lshl X0 hx (hb hby d_prog_28_method_5_code_13) (v := ((o_st (o_st (0 : Int64) (w0 &&& (255 : Int32))) (w1 &&& (255 : Int32))) <<< (8 : Int64))) rfl (n := 14) rfl ?_
  refine o_iloadN X0 hx (hb hby d_prog_28_method_5_code_14) (v := (2 : Int32)) rfl (n := 15) rfl ?_
  refine o_aloadN X0 hx (hb hby d_prog_28_method_5_code_15) (v := (.ref a1)) rfl rfl (n := 16) rfl ?_
  refine o_arraylength X0 hx hZ e0 pV_a1 (hb hby d_prog_28_method_5_code_16) (n := 17) rfl ?_
  refine o_icmpN X0 hx (hb hby d_prog_28_method_5_code_17) (XT.ii_ge_f (by decide)) (n := 20) rfl ?_
  refine o_aloadN X0 hx (hb hby d_prog_28_method_5_code_20) (v := (.ref a1)) rfl rfl (n := 21) rfl ?_
  refine o_iloadN X0 hx (hb hby d_prog_28_method_5_code_21) (v := (2 : Int32)) rfl (n := 22) rfl ?_
  refine o_baload X0 hx hZ e0 pV_a1 (2) (by decide) (by decide) (v := (.int w2)) rfl (hb hby d_prog_28_method_5_code_22) (n := 23) rfl ?_
  refine o_sipush X0 hx (hb hby d_prog_28_method_5_code_23) (v := (255 : Int32)) rfl (n := 26) rfl ?_
  refine o_iand X0 hx (hb hby d_prog_28_method_5_code_26) (v := (w2 &&& (255 : Int32))) rfl (n := 27) rfl ?_
  refine o_goto X0 hx (hb hby d_prog_28_method_5_code_27) (by decide) (n := 31) (by decide) ?_
  refine o_i2l X0 hx (hb hby d_prog_28_method_5_code_31) (v := (w2 &&& (255 : Int32)).toInt64) rfl (n := 32) rfl ?_
  refine o_lor X0 hx (hb hby d_prog_28_method_5_code_32) (v := (o_st (o_st (o_st (0 : Int64) (w0 &&& (255 : Int32))) (w1 &&& (255 : Int32))) (w2 &&& (255 : Int32)))) rfl (n := 33) rfl ?_
  refine o_lstoreN X0 hx (hb hby d_prog_28_method_5_code_33) (Ls' := #[.val (.ref a1), .val (.long (o_st (o_st (o_st (0 : Int64) (w0 &&& (255 : Int32))) (w1 &&& (255 : Int32))) (w2 &&& (255 : Int32)))), .second, .val (.int (2 : Int32))]) rfl (n := 34) rfl ?_
  refine o_iinc X0 hx (hb hby d_prog_28_method_5_code_34) (w := (3 : Int32)) rfl (by decide) (Ls' := #[.val (.ref a1), .val (.long (o_st (o_st (o_st (0 : Int64) (w0 &&& (255 : Int32))) (w1 &&& (255 : Int32))) (w2 &&& (255 : Int32)))), .second, .val (.int (3 : Int32))]) rfl (n := 37) rfl ?_
  refine o_goto X0 hx (hb hby d_prog_28_method_5_code_37) (by decide) (n := 4) (by decide) ?_
  refine o_iloadN X0 hx (hb hby d_prog_28_method_5_code_4) (v := (3 : Int32)) rfl (n := 5) rfl ?_
  refine o_bipush X0 hx (hb hby d_prog_28_method_5_code_5) (v := (8 : Int32)) rfl (n := 7) rfl ?_
  refine o_icmpN X0 hx (hb hby d_prog_28_method_5_code_7) (XT.ii_ge_f (by decide)) (n := 10) rfl ?_
  refine o_lloadN X0 hx (hb hby d_prog_28_method_5_code_10) (v := (o_st (o_st (o_st (0 : Int64) (w0 &&& (255 : Int32))) (w1 &&& (255 : Int32))) (w2 &&& (255 : Int32)))) rfl (n := 11) rfl ?_
  refine o_bipush X0 hx (hb hby d_prog_28_method_5_code_11) (v := (8 : Int32)) rfl (n := 13) rfl ?_
  refine o_lshl X0 hx (hb hby d_prog_28_method_5_code_13) (v := ((o_st (o_st (o_st (0 : Int64) (w0 &&& (255 : Int32))) (w1 &&& (255 : Int32))) (w2 &&& (255 : Int32))) <<< (8 : Int64))) rfl (n := 14) rfl ?_
  refine o_iloadN X0 hx (hb hby d_prog_28_method_5_code_14) (v := (3 : Int32)) rfl (n := 15) rfl ?_
  refine o_aloadN X0 hx (hb hby d_prog_28_method_5_code_15) (v := (.ref a1)) rfl rfl (n := 16) rfl ?_
  refine o_arraylength X0 hx hZ e0 pV_a1 (hb hby d_prog_28_method_5_code_16) (n := 17) rfl ?_
  refine o_icmpN X0 hx (hb hby d_prog_28_method_5_code_17) (XT.ii_ge_f (by decide)) (n := 20) rfl ?_
  refine o_aloadN X0 hx (hb hby d_prog_28_method_5_code_20) (v := (.ref a1)) rfl rfl (n := 21) rfl ?_
  refine o_iloadN X0 hx (hb hby d_prog_28_method_5_code_21) (v := (3 : Int32)) rfl (n := 22) rfl ?_
  refine o_baload X0 hx hZ e0 pV_a1 (3) (by decide) (by decide) (v := (.int w3)) rfl (hb hby d_prog_28_method_5_code_22) (n := 23) rfl ?_
  refine o_sipush X0 hx (hb hby d_prog_28_method_5_code_23) (v := (255 : Int32)) rfl (n := 26) rfl ?_
  refine o_iand X0 hx (hb hby d_prog_28_method_5_code_26) (v := (w3 &&& (255 : Int32))) rfl (n := 27) rfl ?_
  refine o_goto X0 hx (hb hby d_prog_28_method_5_code_27) (by decide) (n := 31) (by decide) ?_
  refine o_i2l X0 hx (hb hby d_prog_28_method_5_code_31) (v := (w3 &&& (255 : Int32)).toInt64) rfl (n := 32) rfl ?_
  refine o_lor X0 hx (hb hby d_prog_28_method_5_code_32) (v := (o_st (o_st (o_st (o_st (0 : Int64) (w0 &&& (255 : Int32))) (w1 &&& (255 : Int32))) (w2 &&& (255 : Int32))) (w3 &&& (255 : Int32)))) rfl (n := 33) rfl ?_
  refine o_lstoreN X0 hx (hb hby d_prog_28_method_5_code_33) (Ls' := #[.val (.ref a1), .val (.long (o_st (o_st (o_st (o_st (0 : Int64) (w0 &&& (255 : Int32))) (w1 &&& (255 : Int32))) (w2 &&& (255 : Int32))) (w3 &&& (255 : Int32)))), .second, .val (.int (3 : Int32))]) rfl (n := 34) rfl ?_
  refine o_iinc X0 hx (hb hby d_prog_28_method_5_code_34) (w := (4 : Int32)) rfl (by decide) (Ls' := #[.val (.ref a1), .val (.long (o_st (o_st (o_st (o_st (0 : Int64) (w0 &&& (255 : Int32))) (w1 &&& (255 : Int32))) (w2 &&& (255 : Int32))) (w3 &&& (255 : Int32)))), .second, .val (.int (4 : Int32))]) rfl (n := 37) rfl ?_
  refine o_goto X0 hx (hb hby d_prog_28_method_5_code_37) (by decide) (n := 4) (by decide) ?_
  refine o_iloadN X0 hx (hb hby d_prog_28_method_5_code_4) (v := (4 : Int32)) rfl (n := 5) rfl ?_
  refine o_bipush X0 hx (hb hby d_prog_28_method_5_code_5) (v := (8 : Int32)) rfl (n := 7) rfl ?_
  refine o_icmpN X0 hx (hb hby d_prog_28_method_5_code_7) (XT.ii_ge_f (by decide)) (n := 10) rfl ?_
  refine o_lloadN X0 hx (hb hby d_prog_28_method_5_code_10) (v := (o_st (o_st (o_st (o_st (0 : Int64) (w0 &&& (255 : Int32))) (w1 &&& (255 : Int32))) (w2 &&& (255 : Int32))) (w3 &&& (255 : Int32)))) rfl (n := 11) rfl ?_
  refine o_bipush X0 hx (hb hby d_prog_28_method_5_code_11) (v := (8 : Int32)) rfl (n := 13) rfl ?_
  refine o_lshl X0 hx (hb hby d_prog_28_method_5_code_13) (v := ((o_st (o_st (o_st (o_st (0 : Int64) (w0 &&& (255 : Int32))) (w1 &&& (255 : Int32))) (w2 &&& (255 : Int32))) (w3 &&& (255 : Int32))) <<< (8 : Int64))) rfl (n := 14) rfl ?_
  refine o_iloadN X0 hx (hb hby d_prog_28_method_5_code_14) (v := (4 : Int32)) rfl (n := 15) rfl ?_
  refine o_aloadN X0 hx (hb hby d_prog_28_method_5_code_15) (v := (.ref a1)) rfl rfl (n := 16) rfl ?_
  refine o_arraylength X0 hx hZ e0 pV_a1 (hb hby d_prog_28_method_5_code_16) (n := 17) rfl ?_
  refine o_icmpN X0 hx (hb hby d_prog_28_method_5_code_17) (XT.ii_ge_f (by decide)) (n := 20) rfl ?_
  refine o_aloadN X0 hx (hb hby d_prog_28_method_5_code_20) (v := (.ref a1)) rfl rfl (n := 21) rfl ?_
  refine o_iloadN X0 hx (hb hby d_prog_28_method_5_code_21) (v := (4 : Int32)) rfl (n := 22) rfl ?_
  refine o_baload X0 hx hZ e0 pV_a1 (4) (by decide) (by decide) (v := (.int w4)) rfl (hb hby d_prog_28_method_5_code_22) (n := 23) rfl ?_
  refine o_sipush X0 hx (hb hby d_prog_28_method_5_code_23) (v := (255 : Int32)) rfl (n := 26) rfl ?_
  refine o_iand X0 hx (hb hby d_prog_28_method_5_code_26) (v := (w4 &&& (255 : Int32))) rfl (n := 27) rfl ?_
  refine o_goto X0 hx (hb hby d_prog_28_method_5_code_27) (by decide) (n := 31) (by decide) ?_
  refine o_i2l X0 hx (hb hby d_prog_28_method_5_code_31) (v := (w4 &&& (255 : Int32)).toInt64) rfl (n := 32) rfl ?_
  refine o_lor X0 hx (hb hby d_prog_28_method_5_code_32) (v := (o_st (o_st (o_st (o_st (o_st (0 : Int64) (w0 &&& (255 : Int32))) (w1 &&& (255 : Int32))) (w2 &&& (255 : Int32))) (w3 &&& (255 : Int32))) (w4 &&& (255 : Int32)))) rfl (n := 33) rfl ?_
  refine o_lstoreN X0 hx (hb hby d_prog_28_method_5_code_33) (Ls' := #[.val (.ref a1), .val (.long (o_st (o_st (o_st (o_st (o_st (0 : Int64) (w0 &&& (255 : Int32))) (w1 &&& (255 : Int32))) (w2 &&& (255 : Int32))) (w3 &&& (255 : Int32))) (w4 &&& (255 : Int32)))), .second, .val (.int (4 : Int32))]) rfl (n := 34) rfl ?_
  refine o_iinc X0 hx (hb hby d_prog_28_method_5_code_34) (w := (5 : Int32)) rfl (by decide) (Ls' := #[.val (.ref a1), .val (.long (o_st (o_st (o_st (o_st (o_st (0 : Int64) (w0 &&& (255 : Int32))) (w1 &&& (255 : Int32))) (w2 &&& (255 : Int32))) (w3 &&& (255 : Int32))) (w4 &&& (255 : Int32)))), .second, .val (.int (5 : Int32))]) rfl (n := 37) rfl ?_
  refine o_goto X0 hx (hb hby d_prog_28_method_5_code_37) (by decide) (n := 4) (by decide) ?_
  refine o_iloadN X0 hx (hb hby d_prog_28_method_5_code_4) (v := (5 : Int32)) rfl (n := 5) rfl ?_
  refine o_bipush X0 hx (hb hby d_prog_28_method_5_code_5) (v := (8 : Int32)) rfl (n := 7) rfl ?_
  refine o_icmpN X0 hx (hb hby d_prog_28_method_5_code_7) (XT.ii_ge_f (by decide)) (n := 10) rfl ?_
  refine o_lloadN X0 hx (hb hby d_prog_28_method_5_code_10) (v := (o_st (o_st (o_st (o_st (o_st (0 : Int64) (w0 &&& (255 : Int32))) (w1 &&& (255 : Int32))) (w2 &&& (255 : Int32))) (w3 &&& (255 : Int32))) (w4 &&& (255 : Int32)))) rfl (n := 11) rfl ?_
  refine o_bipush X0 hx (hb hby d_prog_28_method_5_code_11) (v := (8 : Int32)) rfl (n := 13) rfl ?_
  refine o_lshl X0 hx (hb hby d_prog_28_method_5_code_13) (v := ((o_st (o_st (o_st (o_st (o_st (0 : Int64) (w0 &&& (255 : Int32))) (w1 &&& (255 : Int32))) (w2 &&& (255 : Int32))) (w3 &&& (255 : Int32))) (w4 &&& (255 : Int32))) <<< (8 : Int64))) rfl (n := 14) rfl ?_
  refine o_iloadN X0 hx (hb hby d_prog_28_method_5_code_14) (v := (5 : Int32)) rfl (n := 15) rfl ?_
  refine o_aloadN X0 hx (hb hby d_prog_28_method_5_code_15) (v := (.ref a1)) rfl rfl (n := 16) rfl ?_
  refine o_arraylength X0 hx hZ e0 pV_a1 (hb hby d_prog_28_method_5_code_16) (n := 17) rfl ?_
  refine o_icmpN X0 hx (hb hby d_prog_28_method_5_code_17) (XT.ii_ge_f (by decide)) (n := 20) rfl ?_
  refine o_aloadN X0 hx (hb hby d_prog_28_method_5_code_20) (v := (.ref a1)) rfl rfl (n := 21) rfl ?_
  refine o_iloadN X0 hx (hb hby d_prog_28_method_5_code_21) (v := (5 : Int32)) rfl (n := 22) rfl ?_
  refine o_baload X0 hx hZ e0 pV_a1 (5) (by decide) (by decide) (v := (.int w5)) rfl (hb hby d_prog_28_method_5_code_22) (n := 23) rfl ?_
  refine o_sipush X0 hx (hb hby d_prog_28_method_5_code_23) (v := (255 : Int32)) rfl (n := 26) rfl ?_
  refine o_iand X0 hx (hb hby d_prog_28_method_5_code_26) (v := (w5 &&& (255 : Int32))) rfl (n := 27) rfl ?_
  refine o_goto X0 hx (hb hby d_prog_28_method_5_code_27) (by decide) (n := 31) (by decide) ?_
  refine o_i2l X0 hx (hb hby d_prog_28_method_5_code_31) (v := (w5 &&& (255 : Int32)).toInt64) rfl (n := 32) rfl ?_
  refine o_lor X0 hx (hb hby d_prog_28_method_5_code_32) (v := (o_st (o_st (o_st (o_st (o_st (o_st (0 : Int64) (w0 &&& (255 : Int32))) (w1 &&& (255 : Int32))) (w2 &&& (255 : Int32))) (w3 &&& (255 : Int32))) (w4 &&& (255 : Int32))) (w5 &&& (255 : Int32)))) rfl (n := 33) rfl ?_
  refine o_lstoreN X0 hx (hb hby d_prog_28_method_5_code_33) (Ls' := #[.val (.ref a1), .val (.long (o_st (o_st (o_st (o_st (o_st (o_st (0 : Int64) (w0 &&& (255 : Int32))) (w1 &&& (255 : Int32))) (w2 &&& (255 : Int32))) (w3 &&& (255 : Int32))) (w4 &&& (255 : Int32))) (w5 &&& (255 : Int32)))), .second, .val (.int (5 : Int32))]) rfl (n := 34) rfl ?_
  refine o_iinc X0 hx (hb hby d_prog_28_method_5_code_34) (w := (6 : Int32)) rfl (by decide) (Ls' := #[.val (.ref a1), .val (.long (o_st (o_st (o_st (o_st (o_st (o_st (0 : Int64) (w0 &&& (255 : Int32))) (w1 &&& (255 : Int32))) (w2 &&& (255 : Int32))) (w3 &&& (255 : Int32))) (w4 &&& (255 : Int32))) (w5 &&& (255 : Int32)))), .second, .val (.int (6 : Int32))]) rfl (n := 37) rfl ?_
  refine o_goto X0 hx (hb hby d_prog_28_method_5_code_37) (by decide) (n := 4) (by decide) ?_
  refine o_iloadN X0 hx (hb hby d_prog_28_method_5_code_4) (v := (6 : Int32)) rfl (n := 5) rfl ?_
  refine o_bipush X0 hx (hb hby d_prog_28_method_5_code_5) (v := (8 : Int32)) rfl (n := 7) rfl ?_
  refine o_icmpN X0 hx (hb hby d_prog_28_method_5_code_7) (XT.ii_ge_f (by decide)) (n := 10) rfl ?_
  refine o_lloadN X0 hx (hb hby d_prog_28_method_5_code_10) (v := (o_st (o_st (o_st (o_st (o_st (o_st (0 : Int64) (w0 &&& (255 : Int32))) (w1 &&& (255 : Int32))) (w2 &&& (255 : Int32))) (w3 &&& (255 : Int32))) (w4 &&& (255 : Int32))) (w5 &&& (255 : Int32)))) rfl (n := 11) rfl ?_
  refine o_bipush X0 hx (hb hby d_prog_28_method_5_code_11) (v := (8 : Int32)) rfl (n := 13) rfl ?_
  refine o_lshl X0 hx (hb hby d_prog_28_method_5_code_13) (v := ((o_st (o_st (o_st (o_st (o_st (o_st (0 : Int64) (w0 &&& (255 : Int32))) (w1 &&& (255 : Int32))) (w2 &&& (255 : Int32))) (w3 &&& (255 : Int32))) (w4 &&& (255 : Int32))) (w5 &&& (255 : Int32))) <<< (8 : Int64))) rfl (n := 14) rfl ?_
  refine o_iloadN X0 hx (hb hby d_prog_28_method_5_code_14) (v := (6 : Int32)) rfl (n := 15) rfl ?_
  refine o_aloadN X0 hx (hb hby d_prog_28_method_5_code_15) (v := (.ref a1)) rfl rfl (n := 16) rfl ?_
  refine o_arraylength X0 hx hZ e0 pV_a1 (hb hby d_prog_28_method_5_code_16) (n := 17) rfl ?_
  refine o_icmpN X0 hx (hb hby d_prog_28_method_5_code_17) (XT.ii_ge_f (by decide)) (n := 20) rfl ?_
  refine o_aloadN X0 hx (hb hby d_prog_28_method_5_code_20) (v := (.ref a1)) rfl rfl (n := 21) rfl ?_
  refine o_iloadN X0 hx (hb hby d_prog_28_method_5_code_21) (v := (6 : Int32)) rfl (n := 22) rfl ?_
  refine o_baload X0 hx hZ e0 pV_a1 (6) (by decide) (by decide) (v := (.int w6)) rfl (hb hby d_prog_28_method_5_code_22) (n := 23) rfl ?_
  refine o_sipush X0 hx (hb hby d_prog_28_method_5_code_23) (v := (255 : Int32)) rfl (n := 26) rfl ?_
  refine o_iand X0 hx (hb hby d_prog_28_method_5_code_26) (v := (w6 &&& (255 : Int32))) rfl (n := 27) rfl ?_
  refine o_goto X0 hx (hb hby d_prog_28_method_5_code_27) (by decide) (n := 31) (by decide) ?_
  refine o_i2l X0 hx (hb hby d_prog_28_method_5_code_31) (v := (w6 &&& (255 : Int32)).toInt64) rfl (n := 32) rfl ?_
  refine o_lor X0 hx (hb hby d_prog_28_method_5_code_32) (v := (o_st (o_st (o_st (o_st (o_st (o_st (o_st (0 : Int64) (w0 &&& (255 : Int32))) (w1 &&& (255 : Int32))) (w2 &&& (255 : Int32))) (w3 &&& (255 : Int32))) (w4 &&& (255 : Int32))) (w5 &&& (255 : Int32))) (w6 &&& (255 : Int32)))) rfl (n := 33) rfl ?_
  refine o_lstoreN X0 hx (hb hby d_prog_28_method_5_code_33) (Ls' := #[.val (.ref a1), .val (.long (o_st (o_st (o_st (o_st (o_st (o_st (o_st (0 : Int64) (w0 &&& (255 : Int32))) (w1 &&& (255 : Int32))) (w2 &&& (255 : Int32))) (w3 &&& (255 : Int32))) (w4 &&& (255 : Int32))) (w5 &&& (255 : Int32))) (w6 &&& (255 : Int32)))), .second, .val (.int (6 : Int32))]) rfl (n := 34) rfl ?_
  refine o_iinc X0 hx (hb hby d_prog_28_method_5_code_34) (w := (7 : Int32)) rfl (by decide) (Ls' := #[.val (.ref a1), .val (.long (o_st (o_st (o_st (o_st (o_st (o_st (o_st (0 : Int64) (w0 &&& (255 : Int32))) (w1 &&& (255 : Int32))) (w2 &&& (255 : Int32))) (w3 &&& (255 : Int32))) (w4 &&& (255 : Int32))) (w5 &&& (255 : Int32))) (w6 &&& (255 : Int32)))), .second, .val (.int (7 : Int32))]) rfl (n := 37) rfl ?_
  refine o_goto X0 hx (hb hby d_prog_28_method_5_code_37) (by decide) (n := 4) (by decide) ?_
  refine o_iloadN X0 hx (hb hby d_prog_28_method_5_code_4) (v := (7 : Int32)) rfl (n := 5) rfl ?_
  refine o_bipush X0 hx (hb hby d_prog_28_method_5_code_5) (v := (8 : Int32)) rfl (n := 7) rfl ?_
  refine o_icmpN X0 hx (hb hby d_prog_28_method_5_code_7) (XT.ii_ge_f (by decide)) (n := 10) rfl ?_
  refine o_lloadN X0 hx (hb hby d_prog_28_method_5_code_10) (v := (o_st (o_st (o_st (o_st (o_st (o_st (o_st (0 : Int64) (w0 &&& (255 : Int32))) (w1 &&& (255 : Int32))) (w2 &&& (255 : Int32))) (w3 &&& (255 : Int32))) (w4 &&& (255 : Int32))) (w5 &&& (255 : Int32))) (w6 &&& (255 : Int32)))) rfl (n := 11) rfl ?_
  refine o_bipush X0 hx (hb hby d_prog_28_method_5_code_11) (v := (8 : Int32)) rfl (n := 13) rfl ?_
  refine o_lshl X0 hx (hb hby d_prog_28_method_5_code_13) (v := ((o_st (o_st (o_st (o_st (o_st (o_st (o_st (0 : Int64) (w0 &&& (255 : Int32))) (w1 &&& (255 : Int32))) (w2 &&& (255 : Int32))) (w3 &&& (255 : Int32))) (w4 &&& (255 : Int32))) (w5 &&& (255 : Int32))) (w6 &&& (255 : Int32))) <<< (8 : Int64))) rfl (n := 14) rfl ?_
  refine o_iloadN X0 hx (hb hby d_prog_28_method_5_code_14) (v := (7 : Int32)) rfl (n := 15) rfl ?_
  refine o_aloadN X0 hx (hb hby d_prog_28_method_5_code_15) (v := (.ref a1)) rfl rfl (n := 16) rfl ?_
  refine o_arraylength X0 hx hZ e0 pV_a1 (hb hby d_prog_28_method_5_code_16) (n := 17) rfl ?_
  refine o_icmpN X0 hx (hb hby d_prog_28_method_5_code_17) (XT.ii_ge_f (by decide)) (n := 20) rfl ?_
  refine o_aloadN X0 hx (hb hby d_prog_28_method_5_code_20) (v := (.ref a1)) rfl rfl (n := 21) rfl ?_
  refine o_iloadN X0 hx (hb hby d_prog_28_method_5_code_21) (v := (7 : Int32)) rfl (n := 22) rfl ?_
  refine o_baload X0 hx hZ e0 pV_a1 (7) (by decide) (by decide) (v := (.int w7)) rfl (hb hby d_prog_28_method_5_code_22) (n := 23) rfl ?_
  refine o_sipush X0 hx (hb hby d_prog_28_method_5_code_23) (v := (255 : Int32)) rfl (n := 26) rfl ?_
  refine o_iand X0 hx (hb hby d_prog_28_method_5_code_26) (v := (w7 &&& (255 : Int32))) rfl (n := 27) rfl ?_
  refine o_goto X0 hx (hb hby d_prog_28_method_5_code_27) (by decide) (n := 31) (by decide) ?_
  refine o_i2l X0 hx (hb hby d_prog_28_method_5_code_31) (v := (w7 &&& (255 : Int32)).toInt64) rfl (n := 32) rfl ?_
  refine o_lor X0 hx (hb hby d_prog_28_method_5_code_32) (v := (o_st (o_st (o_st (o_st (o_st (o_st (o_st (o_st (0 : Int64) (w0 &&& (255 : Int32))) (w1 &&& (255 : Int32))) (w2 &&& (255 : Int32))) (w3 &&& (255 : Int32))) (w4 &&& (255 : Int32))) (w5 &&& (255 : Int32))) (w6 &&& (255 : Int32))) (w7 &&& (255 : Int32)))) rfl (n := 33) rfl ?_
  refine o_lstoreN X0 hx (hb hby d_prog_28_method_5_code_33) (Ls' := #[.val (.ref a1), .val (.long (o_st (o_st (o_st (o_st (o_st (o_st (o_st (o_st (0 : Int64) (w0 &&& (255 : Int32))) (w1 &&& (255 : Int32))) (w2 &&& (255 : Int32))) (w3 &&& (255 : Int32))) (w4 &&& (255 : Int32))) (w5 &&& (255 : Int32))) (w6 &&& (255 : Int32))) (w7 &&& (255 : Int32)))), .second, .val (.int (7 : Int32))]) rfl (n := 34) rfl ?_
  refine o_iinc X0 hx (hb hby d_prog_28_method_5_code_34) (w := (8 : Int32)) rfl (by decide) (Ls' := #[.val (.ref a1), .val (.long (o_st (o_st (o_st (o_st (o_st (o_st (o_st (o_st (0 : Int64) (w0 &&& (255 : Int32))) (w1 &&& (255 : Int32))) (w2 &&& (255 : Int32))) (w3 &&& (255 : Int32))) (w4 &&& (255 : Int32))) (w5 &&& (255 : Int32))) (w6 &&& (255 : Int32))) (w7 &&& (255 : Int32)))), .second, .val (.int (8 : Int32))]) rfl (n := 37) rfl ?_
  refine o_goto X0 hx (hb hby d_prog_28_method_5_code_37) (by decide) (n := 4) (by decide) ?_
  refine o_iloadN X0 hx (hb hby d_prog_28_method_5_code_4) (v := (8 : Int32)) rfl (n := 5) rfl ?_
  refine o_bipush X0 hx (hb hby d_prog_28_method_5_code_5) (v := (8 : Int32)) rfl (n := 7) rfl ?_
  refine o_icmpY X0 hx (hb hby d_prog_28_method_5_code_7) (XT.ii_ge_t (by decide)) (by decide) (n := 40) (by decide) ?_
  refine o_lloadN X0 hx (hb hby d_prog_28_method_5_code_40) (v := (o_st (o_st (o_st (o_st (o_st (o_st (o_st (o_st (0 : Int64) (w0 &&& (255 : Int32))) (w1 &&& (255 : Int32))) (w2 &&& (255 : Int32))) (w3 &&& (255 : Int32))) (w4 &&& (255 : Int32))) (w5 &&& (255 : Int32))) (w6 &&& (255 : Int32))) (w7 &&& (255 : Int32)))) rfl (n := 41) rfl ?_
  exact o_lreturn X0 hx hret hlk (hb hby d_prog_28_method_5_code_41) (by decide) (by decide) e0 ⟨rfl, rfl, rfl⟩
theorem d_method_2_code_12 : decode method_2_code 12 = .ok (.lload_n 0, 1) := by decide +kernel
theorem d_method_2_code_13 : decode method_2_code 13 = .ok (.lreturn, 1) := by decide +kernel
theorem o_ef18 (m : MethodId) (p0 : Int64) : entryFrame m #[(.long p0), (.int (8 : Int32))] 3 = mkF m 0 #[.val (.long p0), .second, .val (.int (8 : Int32))] [] := by first | (simp [entryFrame, mkF, argsToLocals, Value.category]; done) | rfl
set_option maxRecDepth 65536 in
set_option maxHeartbeats 40000000 in
theorem c_exp_8 (l : Launch) (Z : State) (a0 : Array Value) (hw : ∀ d ∈ tables_1, d.before a0 Z = true) (p0 : Int64) (h0 : Heap) :
    Does l Z (⟨"com/example/variform/variform/variant/Utf8HeadPinLaw", "expected", "(JI)J"⟩ : MethodName) method_2_code 3 (some .long) [] ({ frames := 0, cells := 0, slots := 0, locals := 0 } : Room) #[(.long p0), (.int (8 : Int32))] h0 (Pur h0 (.long p0)) := by
  refine Does.of (plainFor_of_name o_pn1) ?_
  intro p e s m below meth c T0 hx hby hml hown hnm hret hlk hZ X0 e0
  have hown : s.vm.findClass "com/example/variform/variform/variant/Utf8HeadPinLaw" = some m.cls := hown
  have hml : c.maxLocals = 3 := hml
  have hret : meth.sig.returnType = some .long := hret
  refine o_entry (o_ef18 m p0) ?_
  refine o_iloadN X0 hx (hb hby d_method_2_code_0) (v := (8 : Int32)) rfl (n := 1) rfl ?_
  refine o_ifY X0 hx (hb hby d_method_2_code_1) (XT.i0_ne_t (by decide)) (by decide) (n := 6) (by decide) ?_
  refine o_iloadN X0 hx (hb hby d_method_2_code_6) (v := (8 : Int32)) rfl (n := 7) rfl ?_
  refine o_bipush X0 hx (hb hby d_method_2_code_7) (v := (8 : Int32)) rfl (n := 9) rfl ?_
  refine o_icmpN X0 hx (hb hby d_method_2_code_9) (XT.ii_lt_f (by decide)) (n := 12) rfl ?_
  refine o_lloadN X0 hx (hb hby d_method_2_code_12) (v := p0) rfl (n := 13) rfl ?_
  exact o_lreturn X0 hx hret hlk (hb hby d_method_2_code_13) (by decide) (by decide) e0 ⟨rfl, rfl, rfl⟩
theorem o_ef19 (m : MethodId) (a1 : Addr) : entryFrame m #[(.ref a1)] 4 = mkF m 0 #[.val (.ref a1), .unset, .unset, .unset] [] := by first | (simp [entryFrame, mkF, argsToLocals, Value.category]; done) | rfl
set_option maxRecDepth 65536 in
set_option maxHeartbeats 40000000 in
theorem c_head_9 (l : Launch) (Z : State) (a0 : Array Value) (hw : ∀ d ∈ tables_1, d.before a0 Z = true) (a1 : Addr) (k1 : ClassId) (w0 : Int32) (w1 : Int32) (w2 : Int32) (w3 : Int32) (w4 : Int32) (w5 : Int32) (w6 : Int32) (w7 : Int32) (w8 : Int32) (h0 : Heap) (pV_a1 : Arv Z h0 a1 k1 .byte (9 : Int32) [(.int w0), (.int w1), (.int w2), (.int w3), (.int w4), (.int w5), (.int w6), (.int w7), (.int w8)] (.int (0 : Int32))) :
    Does l Z (⟨"com/example/variform/variform/variant/Utf8", "head", "([B)J"⟩ : MethodName) prog_28_method_5_code 4 (some .long) [] ({ frames := 0, cells := 0, slots := 0, locals := 0 } : Room) #[(.ref a1)] h0 (Pur h0 (.long (o_st (o_st (o_st (o_st (o_st (o_st (o_st (o_st (0 : Int64) (w0 &&& (255 : Int32))) (w1 &&& (255 : Int32))) (w2 &&& (255 : Int32))) (w3 &&& (255 : Int32))) (w4 &&& (255 : Int32))) (w5 &&& (255 : Int32))) (w6 &&& (255 : Int32))) (w7 &&& (255 : Int32))))) := by
  refine Does.of (plainFor_of_name o_pn0) ?_
  intro p e s m below meth c T0 hx hby hml hown hnm hret hlk hZ X0 e0
  have hown : s.vm.findClass "com/example/variform/variform/variant/Utf8" = some m.cls := hown
  have hml : c.maxLocals = 4 := hml
  have hret : meth.sig.returnType = some .long := hret
  refine o_entry (o_ef19 m a1) ?_
  refine o_lconst X0 hx (hb hby d_prog_28_method_5_code_0) (v := (0 : Int64)) rfl (n := 1) rfl ?_
  refine o_lstoreN X0 hx (hb hby d_prog_28_method_5_code_1) (Ls' := #[.val (.ref a1), .val (.long (0 : Int64)), .second, .unset]) rfl (n := 2) rfl ?_
  refine o_iconst X0 hx (hb hby d_prog_28_method_5_code_2) (v := (0 : Int32)) rfl (n := 3) rfl ?_
  refine o_istoreN X0 hx (hb hby d_prog_28_method_5_code_3) (Ls' := #[.val (.ref a1), .val (.long (0 : Int64)), .second, .val (.int (0 : Int32))]) rfl (n := 4) rfl ?_
  refine o_iloadN X0 hx (hb hby d_prog_28_method_5_code_4) (v := (0 : Int32)) rfl (n := 5) rfl ?_
  refine o_bipush X0 hx (hb hby d_prog_28_method_5_code_5) (v := (8 : Int32)) rfl (n := 7) rfl ?_
  refine o_icmpN X0 hx (hb hby d_prog_28_method_5_code_7) (XT.ii_ge_f (by decide)) (n := 10) rfl ?_
  refine o_lloadN X0 hx (hb hby d_prog_28_method_5_code_10) (v := (0 : Int64)) rfl (n := 11) rfl ?_
  refine o_bipush X0 hx (hb hby d_prog_28_method_5_code_11) (v := (8 : Int32)) rfl (n := 13) rfl ?_
  refine o_lshl X0 hx (hb hby d_prog_28_method_5_code_13) (v := ((0 : Int64) <<< (8 : Int64))) rfl (n := 14) rfl ?_
  refine o_iloadN X0 hx (hb hby d_prog_28_method_5_code_14) (v := (0 : Int32)) rfl (n := 15) rfl ?_
  refine o_aloadN X0 hx (hb hby d_prog_28_method_5_code_15) (v := (.ref a1)) rfl rfl (n := 16) rfl ?_
  refine o_arraylength X0 hx hZ e0 pV_a1 (hb hby d_prog_28_method_5_code_16) (n := 17) rfl ?_
  refine o_icmpN X0 hx (hb hby d_prog_28_method_5_code_17) (XT.ii_ge_f (by decide)) (n := 20) rfl ?_
  refine o_aloadN X0 hx (hb hby d_prog_28_method_5_code_20) (v := (.ref a1)) rfl rfl (n := 21) rfl ?_
  refine o_iloadN X0 hx (hb hby d_prog_28_method_5_code_21) (v := (0 : Int32)) rfl (n := 22) rfl ?_
  refine o_baload X0 hx hZ e0 pV_a1 (0) (by decide) (by decide) (v := (.int w0)) rfl (hb hby d_prog_28_method_5_code_22) (n := 23) rfl ?_
  refine o_sipush X0 hx (hb hby d_prog_28_method_5_code_23) (v := (255 : Int32)) rfl (n := 26) rfl ?_
  refine o_iand X0 hx (hb hby d_prog_28_method_5_code_26) (v := (w0 &&& (255 : Int32))) rfl (n := 27) rfl ?_
  refine o_goto X0 hx (hb hby d_prog_28_method_5_code_27) (by decide) (n := 31) (by decide) ?_
  refine o_i2l X0 hx (hb hby d_prog_28_method_5_code_31) (v := (w0 &&& (255 : Int32)).toInt64) rfl (n := 32) rfl ?_
  refine o_lor X0 hx (hb hby d_prog_28_method_5_code_32) (v := (o_st (0 : Int64) (w0 &&& (255 : Int32)))) rfl (n := 33) rfl ?_
  refine o_lstoreN X0 hx (hb hby d_prog_28_method_5_code_33) (Ls' := #[.val (.ref a1), .val (.long (o_st (0 : Int64) (w0 &&& (255 : Int32)))), .second, .val (.int (0 : Int32))]) rfl (n := 34) rfl ?_
  refine o_iinc X0 hx (hb hby d_prog_28_method_5_code_34) (w := (1 : Int32)) rfl (by decide) (Ls' := #[.val (.ref a1), .val (.long (o_st (0 : Int64) (w0 &&& (255 : Int32)))), .second, .val (.int (1 : Int32))]) rfl (n := 37) rfl ?_
  refine o_goto X0 hx (hb hby d_prog_28_method_5_code_37) (by decide) (n := 4) (by decide) ?_
  refine o_iloadN X0 hx (hb hby d_prog_28_method_5_code_4) (v := (1 : Int32)) rfl (n := 5) rfl ?_
  refine o_bipush X0 hx (hb hby d_prog_28_method_5_code_5) (v := (8 : Int32)) rfl (n := 7) rfl ?_
  refine o_icmpN X0 hx (hb hby d_prog_28_method_5_code_7) (XT.ii_ge_f (by decide)) (n := 10) rfl ?_
  refine o_lloadN X0 hx (hb hby d_prog_28_method_5_code_10) (v := (o_st (0 : Int64) (w0 &&& (255 : Int32)))) rfl (n := 11) rfl ?_
  refine o_bipush X0 hx (hb hby d_prog_28_method_5_code_11) (v := (8 : Int32)) rfl (n := 13) rfl ?_
  refine o_lshl X0 hx (hb hby d_prog_28_method_5_code_13) (v := ((o_st (0 : Int64) (w0 &&& (255 : Int32))) <<< (8 : Int64))) rfl (n := 14) rfl ?_
  refine o_iloadN X0 hx (hb hby d_prog_28_method_5_code_14) (v := (1 : Int32)) rfl (n := 15) rfl ?_
  refine o_aloadN X0 hx (hb hby d_prog_28_method_5_code_15) (v := (.ref a1)) rfl rfl (n := 16) rfl ?_
  refine o_arraylength X0 hx hZ e0 pV_a1 (hb hby d_prog_28_method_5_code_16) (n := 17) rfl ?_
  refine o_icmpN X0 hx (hb hby d_prog_28_method_5_code_17) (XT.ii_ge_f (by decide)) (n := 20) rfl ?_
  refine o_aloadN X0 hx (hb hby d_prog_28_method_5_code_20) (v := (.ref a1)) rfl rfl (n := 21) rfl ?_
  refine o_iloadN X0 hx (hb hby d_prog_28_method_5_code_21) (v := (1 : Int32)) rfl (n := 22) rfl ?_
  refine o_baload X0 hx hZ e0 pV_a1 (1) (by decide) (by decide) (v := (.int w1)) rfl (hb hby d_prog_28_method_5_code_22) (n := 23) rfl ?_
  refine o_sipush X0 hx (hb hby d_prog_28_method_5_code_23) (v := (255 : Int32)) rfl (n := 26) rfl ?_
  refine o_iand X0 hx (hb hby d_prog_28_method_5_code_26) (v := (w1 &&& (255 : Int32))) rfl (n := 27) rfl ?_
  refine o_goto X0 hx (hb hby d_prog_28_method_5_code_27) (by decide) (n := 31) (by decide) ?_
  refine o_i2l X0 hx (hb hby d_prog_28_method_5_code_31) (v := (w1 &&& (255 : Int32)).toInt64) rfl (n := 32) rfl ?_
  refine o_lor X0 hx (hb hby d_prog_28_method_5_code_32) (v := (o_st (o_st (0 : Int64) (w0 &&& (255 : Int32))) (w1 &&& (255 : Int32)))) rfl (n := 33) rfl ?_
  refine o_lstoreN X0 hx (hb hby d_prog_28_method_5_code_33) (Ls' := #[.val (.ref a1), .val (.long (o_st (o_st (0 : Int64) (w0 &&& (255 : Int32))) (w1 &&& (255 : Int32)))), .second, .val (.int (1 : Int32))]) rfl (n := 34) rfl ?_
  refine o_iinc X0 hx (hb hby d_prog_28_method_5_code_34) (w := (2 : Int32)) rfl (by decide) (Ls' := #[.val (.ref a1), .val (.long (o_st (o_st (0 : Int64) (w0 &&& (255 : Int32))) (w1 &&& (255 : Int32)))), .second, .val (.int (2 : Int32))]) rfl (n := 37) rfl ?_
  refine o_goto X0 hx (hb hby d_prog_28_method_5_code_37) (by decide) (n := 4) (by decide) ?_
  refine o_iloadN X0 hx (hb hby d_prog_28_method_5_code_4) (v := (2 : Int32)) rfl (n := 5) rfl ?_
  refine o_bipush X0 hx (hb hby d_prog_28_method_5_code_5) (v := (8 : Int32)) rfl (n := 7) rfl ?_
  refine o_icmpN X0 hx (hb hby d_prog_28_method_5_code_7) (XT.ii_ge_f (by decide)) (n := 10) rfl ?_
  refine o_lloadN X0 hx (hb hby d_prog_28_method_5_code_10) (v := (o_st (o_st (0 : Int64) (w0 &&& (255 : Int32))) (w1 &&& (255 : Int32)))) rfl (n := 11) rfl ?_
  refine o_bipush X0 hx (hb hby d_prog_28_method_5_code_11) (v := (8 : Int32)) rfl (n := 13) rfl ?_
  refine o_lshl X0 hx (hb hby d_prog_28_method_5_code_13) (v := ((o_st (o_st (0 : Int64) (w0 &&& (255 : Int32))) (w1 &&& (255 : Int32))) <<< (8 : Int64))) rfl (n := 14) rfl ?_
  refine o_iloadN X0 hx (hb hby d_prog_28_method_5_code_14) (v := (2 : Int32)) rfl (n := 15) rfl ?_
  refine o_aloadN X0 hx (hb hby d_prog_28_method_5_code_15) (v := (.ref a1)) rfl rfl (n := 16) rfl ?_
  refine o_arraylength X0 hx hZ e0 pV_a1 (hb hby d_prog_28_method_5_code_16) (n := 17) rfl ?_
  refine o_icmpN X0 hx (hb hby d_prog_28_method_5_code_17) (XT.ii_ge_f (by decide)) (n := 20) rfl ?_
  refine o_aloadN X0 hx (hb hby d_prog_28_method_5_code_20) (v := (.ref a1)) rfl rfl (n := 21) rfl ?_
  refine o_iloadN X0 hx (hb hby d_prog_28_method_5_code_21) (v := (2 : Int32)) rfl (n := 22) rfl ?_
  refine o_baload X0 hx hZ e0 pV_a1 (2) (by decide) (by decide) (v := (.int w2)) rfl (hb hby d_prog_28_method_5_code_22) (n := 23) rfl ?_
  refine o_sipush X0 hx (hb hby d_prog_28_method_5_code_23) (v := (255 : Int32)) rfl (n := 26) rfl ?_
  refine o_iand X0 hx (hb hby d_prog_28_method_5_code_26) (v := (w2 &&& (255 : Int32))) rfl (n := 27) rfl ?_
  refine o_goto X0 hx (hb hby d_prog_28_method_5_code_27) (by decide) (n := 31) (by decide) ?_
  refine o_i2l X0 hx (hb hby d_prog_28_method_5_code_31) (v := (w2 &&& (255 : Int32)).toInt64) rfl (n := 32) rfl ?_
  refine o_lor X0 hx (hb hby d_prog_28_method_5_code_32) (v := (o_st (o_st (o_st (0 : Int64) (w0 &&& (255 : Int32))) (w1 &&& (255 : Int32))) (w2 &&& (255 : Int32)))) rfl (n := 33) rfl ?_
  refine o_lstoreN X0 hx (hb hby d_prog_28_method_5_code_33) (Ls' := #[.val (.ref a1), .val (.long (o_st (o_st (o_st (0 : Int64) (w0 &&& (255 : Int32))) (w1 &&& (255 : Int32))) (w2 &&& (255 : Int32)))), .second, .val (.int (2 : Int32))]) rfl (n := 34) rfl ?_
  refine o_iinc X0 hx (hb hby d_prog_28_method_5_code_34) (w := (3 : Int32)) rfl (by decide) (Ls' := #[.val (.ref a1), .val (.long (o_st (o_st (o_st (0 : Int64) (w0 &&& (255 : Int32))) (w1 &&& (255 : Int32))) (w2 &&& (255 : Int32)))), .second, .val (.int (3 : Int32))]) rfl (n := 37) rfl ?_
  refine o_goto X0 hx (hb hby d_prog_28_method_5_code_37) (by decide) (n := 4) (by decide) ?_
  refine o_iloadN X0 hx (hb hby d_prog_28_method_5_code_4) (v := (3 : Int32)) rfl (n := 5) rfl ?_
  refine o_bipush X0 hx (hb hby d_prog_28_method_5_code_5) (v := (8 : Int32)) rfl (n := 7) rfl ?_
  refine o_icmpN X0 hx (hb hby d_prog_28_method_5_code_7) (XT.ii_ge_f (by decide)) (n := 10) rfl ?_
  refine o_lloadN X0 hx (hb hby d_prog_28_method_5_code_10) (v := (o_st (o_st (o_st (0 : Int64) (w0 &&& (255 : Int32))) (w1 &&& (255 : Int32))) (w2 &&& (255 : Int32)))) rfl (n := 11) rfl ?_
  refine o_bipush X0 hx (hb hby d_prog_28_method_5_code_11) (v := (8 : Int32)) rfl (n := 13) rfl ?_
  refine o_lshl X0 hx (hb hby d_prog_28_method_5_code_13) (v := ((o_st (o_st (o_st (0 : Int64) (w0 &&& (255 : Int32))) (w1 &&& (255 : Int32))) (w2 &&& (255 : Int32))) <<< (8 : Int64))) rfl (n := 14) rfl ?_
  refine o_iloadN X0 hx (hb hby d_prog_28_method_5_code_14) (v := (3 : Int32)) rfl (n := 15) rfl ?_
  refine o_aloadN X0 hx (hb hby d_prog_28_method_5_code_15) (v := (.ref a1)) rfl rfl (n := 16) rfl ?_
  refine o_arraylength X0 hx hZ e0 pV_a1 (hb hby d_prog_28_method_5_code_16) (n := 17) rfl ?_
  refine o_icmpN X0 hx (hb hby d_prog_28_method_5_code_17) (XT.ii_ge_f (by decide)) (n := 20) rfl ?_
  refine o_aloadN X0 hx (hb hby d_prog_28_method_5_code_20) (v := (.ref a1)) rfl rfl (n := 21) rfl ?_
  refine o_iloadN X0 hx (hb hby d_prog_28_method_5_code_21) (v := (3 : Int32)) rfl (n := 22) rfl ?_
  refine o_baload X0 hx hZ e0 pV_a1 (3) (by decide) (by decide) (v := (.int w3)) rfl (hb hby d_prog_28_method_5_code_22) (n := 23) rfl ?_
  refine o_sipush X0 hx (hb hby d_prog_28_method_5_code_23) (v := (255 : Int32)) rfl (n := 26) rfl ?_
  refine o_iand X0 hx (hb hby d_prog_28_method_5_code_26) (v := (w3 &&& (255 : Int32))) rfl (n := 27) rfl ?_
  refine o_goto X0 hx (hb hby d_prog_28_method_5_code_27) (by decide) (n := 31) (by decide) ?_
  refine o_i2l X0 hx (hb hby d_prog_28_method_5_code_31) (v := (w3 &&& (255 : Int32)).toInt64) rfl (n := 32) rfl ?_
  refine o_lor X0 hx (hb hby d_prog_28_method_5_code_32) (v := (o_st (o_st (o_st (o_st (0 : Int64) (w0 &&& (255 : Int32))) (w1 &&& (255 : Int32))) (w2 &&& (255 : Int32))) (w3 &&& (255 : Int32)))) rfl (n := 33) rfl ?_
  refine o_lstoreN X0 hx (hb hby d_prog_28_method_5_code_33) (Ls' := #[.val (.ref a1), .val (.long (o_st (o_st (o_st (o_st (0 : Int64) (w0 &&& (255 : Int32))) (w1 &&& (255 : Int32))) (w2 &&& (255 : Int32))) (w3 &&& (255 : Int32)))), .second, .val (.int (3 : Int32))]) rfl (n := 34) rfl ?_
  refine o_iinc X0 hx (hb hby d_prog_28_method_5_code_34) (w := (4 : Int32)) rfl (by decide) (Ls' := #[.val (.ref a1), .val (.long (o_st (o_st (o_st (o_st (0 : Int64) (w0 &&& (255 : Int32))) (w1 &&& (255 : Int32))) (w2 &&& (255 : Int32))) (w3 &&& (255 : Int32)))), .second, .val (.int (4 : Int32))]) rfl (n := 37) rfl ?_
  refine o_goto X0 hx (hb hby d_prog_28_method_5_code_37) (by decide) (n := 4) (by decide) ?_
  refine o_iloadN X0 hx (hb hby d_prog_28_method_5_code_4) (v := (4 : Int32)) rfl (n := 5) rfl ?_
  refine o_bipush X0 hx (hb hby d_prog_28_method_5_code_5) (v := (8 : Int32)) rfl (n := 7) rfl ?_
  refine o_icmpN X0 hx (hb hby d_prog_28_method_5_code_7) (XT.ii_ge_f (by decide)) (n := 10) rfl ?_
  refine o_lloadN X0 hx (hb hby d_prog_28_method_5_code_10) (v := (o_st (o_st (o_st (o_st (0 : Int64) (w0 &&& (255 : Int32))) (w1 &&& (255 : Int32))) (w2 &&& (255 : Int32))) (w3 &&& (255 : Int32)))) rfl (n := 11) rfl ?_
  refine o_bipush X0 hx (hb hby d_prog_28_method_5_code_11) (v := (8 : Int32)) rfl (n := 13) rfl ?_
  refine o_lshl X0 hx (hb hby d_prog_28_method_5_code_13) (v := ((o_st (o_st (o_st (o_st (0 : Int64) (w0 &&& (255 : Int32))) (w1 &&& (255 : Int32))) (w2 &&& (255 : Int32))) (w3 &&& (255 : Int32))) <<< (8 : Int64))) rfl (n := 14) rfl ?_
  refine o_iloadN X0 hx (hb hby d_prog_28_method_5_code_14) (v := (4 : Int32)) rfl (n := 15) rfl ?_
  refine o_aloadN X0 hx (hb hby d_prog_28_method_5_code_15) (v := (.ref a1)) rfl rfl (n := 16) rfl ?_
  refine o_arraylength X0 hx hZ e0 pV_a1 (hb hby d_prog_28_method_5_code_16) (n := 17) rfl ?_
  refine o_icmpN X0 hx (hb hby d_prog_28_method_5_code_17) (XT.ii_ge_f (by decide)) (n := 20) rfl ?_
  refine o_aloadN X0 hx (hb hby d_prog_28_method_5_code_20) (v := (.ref a1)) rfl rfl (n := 21) rfl ?_
  refine o_iloadN X0 hx (hb hby d_prog_28_method_5_code_21) (v := (4 : Int32)) rfl (n := 22) rfl ?_
  refine o_baload X0 hx hZ e0 pV_a1 (4) (by decide) (by decide) (v := (.int w4)) rfl (hb hby d_prog_28_method_5_code_22) (n := 23) rfl ?_
  refine o_sipush X0 hx (hb hby d_prog_28_method_5_code_23) (v := (255 : Int32)) rfl (n := 26) rfl ?_
  refine o_iand X0 hx (hb hby d_prog_28_method_5_code_26) (v := (w4 &&& (255 : Int32))) rfl (n := 27) rfl ?_
  refine o_goto X0 hx (hb hby d_prog_28_method_5_code_27) (by decide) (n := 31) (by decide) ?_
  refine o_i2l X0 hx (hb hby d_prog_28_method_5_code_31) (v := (w4 &&& (255 : Int32)).toInt64) rfl (n := 32) rfl ?_
  refine o_lor X0 hx (hb hby d_prog_28_method_5_code_32) (v := (o_st (o_st (o_st (o_st (o_st (0 : Int64) (w0 &&& (255 : Int32))) (w1 &&& (255 : Int32))) (w2 &&& (255 : Int32))) (w3 &&& (255 : Int32))) (w4 &&& (255 : Int32)))) rfl (n := 33) rfl ?_
  refine o_lstoreN X0 hx (hb hby d_prog_28_method_5_code_33) (Ls' := #[.val (.ref a1), .val (.long (o_st (o_st (o_st (o_st (o_st (0 : Int64) (w0 &&& (255 : Int32))) (w1 &&& (255 : Int32))) (w2 &&& (255 : Int32))) (w3 &&& (255 : Int32))) (w4 &&& (255 : Int32)))), .second, .val (.int (4 : Int32))]) rfl (n := 34) rfl ?_
  refine o_iinc X0 hx (hb hby d_prog_28_method_5_code_34) (w := (5 : Int32)) rfl (by decide) (Ls' := #[.val (.ref a1), .val (.long (o_st (o_st (o_st (o_st (o_st (0 : Int64) (w0 &&& (255 : Int32))) (w1 &&& (255 : Int32))) (w2 &&& (255 : Int32))) (w3 &&& (255 : Int32))) (w4 &&& (255 : Int32)))), .second, .val (.int (5 : Int32))]) rfl (n := 37) rfl ?_
  refine o_goto X0 hx (hb hby d_prog_28_method_5_code_37) (by decide) (n := 4) (by decide) ?_
  refine o_iloadN X0 hx (hb hby d_prog_28_method_5_code_4) (v := (5 : Int32)) rfl (n := 5) rfl ?_
  refine o_bipush X0 hx (hb hby d_prog_28_method_5_code_5) (v := (8 : Int32)) rfl (n := 7) rfl ?_
  refine o_icmpN X0 hx (hb hby d_prog_28_method_5_code_7) (XT.ii_ge_f (by decide)) (n := 10) rfl ?_
  refine o_lloadN X0 hx (hb hby d_prog_28_method_5_code_10) (v := (o_st (o_st (o_st (o_st (o_st (0 : Int64) (w0 &&& (255 : Int32))) (w1 &&& (255 : Int32))) (w2 &&& (255 : Int32))) (w3 &&& (255 : Int32))) (w4 &&& (255 : Int32)))) rfl (n := 11) rfl ?_
  refine o_bipush X0 hx (hb hby d_prog_28_method_5_code_11) (v := (8 : Int32)) rfl (n := 13) rfl ?_
  refine o_lshl X0 hx (hb hby d_prog_28_method_5_code_13) (v := ((o_st (o_st (o_st (o_st (o_st (0 : Int64) (w0 &&& (255 : Int32))) (w1 &&& (255 : Int32))) (w2 &&& (255 : Int32))) (w3 &&& (255 : Int32))) (w4 &&& (255 : Int32))) <<< (8 : Int64))) rfl (n := 14) rfl ?_
  refine o_iloadN X0 hx (hb hby d_prog_28_method_5_code_14) (v := (5 : Int32)) rfl (n := 15) rfl ?_
  refine o_aloadN X0 hx (hb hby d_prog_28_method_5_code_15) (v := (.ref a1)) rfl rfl (n := 16) rfl ?_
  refine o_arraylength X0 hx hZ e0 pV_a1 (hb hby d_prog_28_method_5_code_16) (n := 17) rfl ?_
  refine o_icmpN X0 hx (hb hby d_prog_28_method_5_code_17) (XT.ii_ge_f (by decide)) (n := 20) rfl ?_
  refine o_aloadN X0 hx (hb hby d_prog_28_method_5_code_20) (v := (.ref a1)) rfl rfl (n := 21) rfl ?_
  refine o_iloadN X0 hx (hb hby d_prog_28_method_5_code_21) (v := (5 : Int32)) rfl (n := 22) rfl ?_
  refine o_baload X0 hx hZ e0 pV_a1 (5) (by decide) (by decide) (v := (.int w5)) rfl (hb hby d_prog_28_method_5_code_22) (n := 23) rfl ?_
  refine o_sipush X0 hx (hb hby d_prog_28_method_5_code_23) (v := (255 : Int32)) rfl (n := 26) rfl ?_
  refine o_iand X0 hx (hb hby d_prog_28_method_5_code_26) (v := (w5 &&& (255 : Int32))) rfl (n := 27) rfl ?_
  refine o_goto X0 hx (hb hby d_prog_28_method_5_code_27) (by decide) (n := 31) (by decide) ?_
  refine o_i2l X0 hx (hb hby d_prog_28_method_5_code_31) (v := (w5 &&& (255 : Int32)).toInt64) rfl (n := 32) rfl ?_
  refine o_lor X0 hx (hb hby d_prog_28_method_5_code_32) (v := (o_st (o_st (o_st (o_st (o_st (o_st (0 : Int64) (w0 &&& (255 : Int32))) (w1 &&& (255 : Int32))) (w2 &&& (255 : Int32))) (w3 &&& (255 : Int32))) (w4 &&& (255 : Int32))) (w5 &&& (255 : Int32)))) rfl (n := 33) rfl ?_
  refine o_lstoreN X0 hx (hb hby d_prog_28_method_5_code_33) (Ls' := #[.val (.ref a1), .val (.long (o_st (o_st (o_st (o_st (o_st (o_st (0 : Int64) (w0 &&& (255 : Int32))) (w1 &&& (255 : Int32))) (w2 &&& (255 : Int32))) (w3 &&& (255 : Int32))) (w4 &&& (255 : Int32))) (w5 &&& (255 : Int32)))), .second, .val (.int (5 : Int32))]) rfl (n := 34) rfl ?_
  refine o_iinc X0 hx (hb hby d_prog_28_method_5_code_34) (w := (6 : Int32)) rfl (by decide) (Ls' := #[.val (.ref a1), .val (.long (o_st (o_st (o_st (o_st (o_st (o_st (0 : Int64) (w0 &&& (255 : Int32))) (w1 &&& (255 : Int32))) (w2 &&& (255 : Int32))) (w3 &&& (255 : Int32))) (w4 &&& (255 : Int32))) (w5 &&& (255 : Int32)))), .second, .val (.int (6 : Int32))]) rfl (n := 37) rfl ?_
  refine o_goto X0 hx (hb hby d_prog_28_method_5_code_37) (by decide) (n := 4) (by decide) ?_
  refine o_iloadN X0 hx (hb hby d_prog_28_method_5_code_4) (v := (6 : Int32)) rfl (n := 5) rfl ?_
  refine o_bipush X0 hx (hb hby d_prog_28_method_5_code_5) (v := (8 : Int32)) rfl (n := 7) rfl ?_
  refine o_icmpN X0 hx (hb hby d_prog_28_method_5_code_7) (XT.ii_ge_f (by decide)) (n := 10) rfl ?_
  refine o_lloadN X0 hx (hb hby d_prog_28_method_5_code_10) (v := (o_st (o_st (o_st (o_st (o_st (o_st (0 : Int64) (w0 &&& (255 : Int32))) (w1 &&& (255 : Int32))) (w2 &&& (255 : Int32))) (w3 &&& (255 : Int32))) (w4 &&& (255 : Int32))) (w5 &&& (255 : Int32)))) rfl (n := 11) rfl ?_
  refine o_bipush X0 hx (hb hby d_prog_28_method_5_code_11) (v := (8 : Int32)) rfl (n := 13) rfl ?_
  refine o_lshl X0 hx (hb hby d_prog_28_method_5_code_13) (v := ((o_st (o_st (o_st (o_st (o_st (o_st (0 : Int64) (w0 &&& (255 : Int32))) (w1 &&& (255 : Int32))) (w2 &&& (255 : Int32))) (w3 &&& (255 : Int32))) (w4 &&& (255 : Int32))) (w5 &&& (255 : Int32))) <<< (8 : Int64))) rfl (n := 14) rfl ?_
  refine o_iloadN X0 hx (hb hby d_prog_28_method_5_code_14) (v := (6 : Int32)) rfl (n := 15) rfl ?_
  refine o_aloadN X0 hx (hb hby d_prog_28_method_5_code_15) (v := (.ref a1)) rfl rfl (n := 16) rfl ?_
  refine o_arraylength X0 hx hZ e0 pV_a1 (hb hby d_prog_28_method_5_code_16) (n := 17) rfl ?_
  refine o_icmpN X0 hx (hb hby d_prog_28_method_5_code_17) (XT.ii_ge_f (by decide)) (n := 20) rfl ?_
  refine o_aloadN X0 hx (hb hby d_prog_28_method_5_code_20) (v := (.ref a1)) rfl rfl (n := 21) rfl ?_
  refine o_iloadN X0 hx (hb hby d_prog_28_method_5_code_21) (v := (6 : Int32)) rfl (n := 22) rfl ?_
  refine o_baload X0 hx hZ e0 pV_a1 (6) (by decide) (by decide) (v := (.int w6)) rfl (hb hby d_prog_28_method_5_code_22) (n := 23) rfl ?_
  refine o_sipush X0 hx (hb hby d_prog_28_method_5_code_23) (v := (255 : Int32)) rfl (n := 26) rfl ?_
  refine o_iand X0 hx (hb hby d_prog_28_method_5_code_26) (v := (w6 &&& (255 : Int32))) rfl (n := 27) rfl ?_
  refine o_goto X0 hx (hb hby d_prog_28_method_5_code_27) (by decide) (n := 31) (by decide) ?_
  refine o_i2l X0 hx (hb hby d_prog_28_method_5_code_31) (v := (w6 &&& (255 : Int32)).toInt64) rfl (n := 32) rfl ?_
  refine o_lor X0 hx (hb hby d_prog_28_method_5_code_32) (v := (o_st (o_st (o_st (o_st (o_st (o_st (o_st (0 : Int64) (w0 &&& (255 : Int32))) (w1 &&& (255 : Int32))) (w2 &&& (255 : Int32))) (w3 &&& (255 : Int32))) (w4 &&& (255 : Int32))) (w5 &&& (255 : Int32))) (w6 &&& (255 : Int32)))) rfl (n := 33) rfl ?_
  refine o_lstoreN X0 hx (hb hby d_prog_28_method_5_code_33) (Ls' := #[.val (.ref a1), .val (.long (o_st (o_st (o_st (o_st (o_st (o_st (o_st (0 : Int64) (w0 &&& (255 : Int32))) (w1 &&& (255 : Int32))) (w2 &&& (255 : Int32))) (w3 &&& (255 : Int32))) (w4 &&& (255 : Int32))) (w5 &&& (255 : Int32))) (w6 &&& (255 : Int32)))), .second, .val (.int (6 : Int32))]) rfl (n := 34) rfl ?_
  refine o_iinc X0 hx (hb hby d_prog_28_method_5_code_34) (w := (7 : Int32)) rfl (by decide) (Ls' := #[.val (.ref a1), .val (.long (o_st (o_st (o_st (o_st (o_st (o_st (o_st (0 : Int64) (w0 &&& (255 : Int32))) (w1 &&& (255 : Int32))) (w2 &&& (255 : Int32))) (w3 &&& (255 : Int32))) (w4 &&& (255 : Int32))) (w5 &&& (255 : Int32))) (w6 &&& (255 : Int32)))), .second, .val (.int (7 : Int32))]) rfl (n := 37) rfl ?_
  refine o_goto X0 hx (hb hby d_prog_28_method_5_code_37) (by decide) (n := 4) (by decide) ?_
  refine o_iloadN X0 hx (hb hby d_prog_28_method_5_code_4) (v := (7 : Int32)) rfl (n := 5) rfl ?_
  refine o_bipush X0 hx (hb hby d_prog_28_method_5_code_5) (v := (8 : Int32)) rfl (n := 7) rfl ?_
  refine o_icmpN X0 hx (hb hby d_prog_28_method_5_code_7) (XT.ii_ge_f (by decide)) (n := 10) rfl ?_
  refine o_lloadN X0 hx (hb hby d_prog_28_method_5_code_10) (v := (o_st (o_st (o_st (o_st (o_st (o_st (o_st (0 : Int64) (w0 &&& (255 : Int32))) (w1 &&& (255 : Int32))) (w2 &&& (255 : Int32))) (w3 &&& (255 : Int32))) (w4 &&& (255 : Int32))) (w5 &&& (255 : Int32))) (w6 &&& (255 : Int32)))) rfl (n := 11) rfl ?_
  refine o_bipush X0 hx (hb hby d_prog_28_method_5_code_11) (v := (8 : Int32)) rfl (n := 13) rfl ?_
  refine o_lshl X0 hx (hb hby d_prog_28_method_5_code_13) (v := ((o_st (o_st (o_st (o_st (o_st (o_st (o_st (0 : Int64) (w0 &&& (255 : Int32))) (w1 &&& (255 : Int32))) (w2 &&& (255 : Int32))) (w3 &&& (255 : Int32))) (w4 &&& (255 : Int32))) (w5 &&& (255 : Int32))) (w6 &&& (255 : Int32))) <<< (8 : Int64))) rfl (n := 14) rfl ?_
  refine o_iloadN X0 hx (hb hby d_prog_28_method_5_code_14) (v := (7 : Int32)) rfl (n := 15) rfl ?_
  refine o_aloadN X0 hx (hb hby d_prog_28_method_5_code_15) (v := (.ref a1)) rfl rfl (n := 16) rfl ?_
  refine o_arraylength X0 hx hZ e0 pV_a1 (hb hby d_prog_28_method_5_code_16) (n := 17) rfl ?_
  refine o_icmpN X0 hx (hb hby d_prog_28_method_5_code_17) (XT.ii_ge_f (by decide)) (n := 20) rfl ?_
  refine o_aloadN X0 hx (hb hby d_prog_28_method_5_code_20) (v := (.ref a1)) rfl rfl (n := 21) rfl ?_
  refine o_iloadN X0 hx (hb hby d_prog_28_method_5_code_21) (v := (7 : Int32)) rfl (n := 22) rfl ?_
  refine o_baload X0 hx hZ e0 pV_a1 (7) (by decide) (by decide) (v := (.int w7)) rfl (hb hby d_prog_28_method_5_code_22) (n := 23) rfl ?_
  refine o_sipush X0 hx (hb hby d_prog_28_method_5_code_23) (v := (255 : Int32)) rfl (n := 26) rfl ?_
  refine o_iand X0 hx (hb hby d_prog_28_method_5_code_26) (v := (w7 &&& (255 : Int32))) rfl (n := 27) rfl ?_
  refine o_goto X0 hx (hb hby d_prog_28_method_5_code_27) (by decide) (n := 31) (by decide) ?_
  refine o_i2l X0 hx (hb hby d_prog_28_method_5_code_31) (v := (w7 &&& (255 : Int32)).toInt64) rfl (n := 32) rfl ?_
  refine o_lor X0 hx (hb hby d_prog_28_method_5_code_32) (v := (o_st (o_st (o_st (o_st (o_st (o_st (o_st (o_st (0 : Int64) (w0 &&& (255 : Int32))) (w1 &&& (255 : Int32))) (w2 &&& (255 : Int32))) (w3 &&& (255 : Int32))) (w4 &&& (255 : Int32))) (w5 &&& (255 : Int32))) (w6 &&& (255 : Int32))) (w7 &&& (255 : Int32)))) rfl (n := 33) rfl ?_
  refine o_lstoreN X0 hx (hb hby d_prog_28_method_5_code_33) (Ls' := #[.val (.ref a1), .val (.long (o_st (o_st (o_st (o_st (o_st (o_st (o_st (o_st (0 : Int64) (w0 &&& (255 : Int32))) (w1 &&& (255 : Int32))) (w2 &&& (255 : Int32))) (w3 &&& (255 : Int32))) (w4 &&& (255 : Int32))) (w5 &&& (255 : Int32))) (w6 &&& (255 : Int32))) (w7 &&& (255 : Int32)))), .second, .val (.int (7 : Int32))]) rfl (n := 34) rfl ?_
  refine o_iinc X0 hx (hb hby d_prog_28_method_5_code_34) (w := (8 : Int32)) rfl (by decide) (Ls' := #[.val (.ref a1), .val (.long (o_st (o_st (o_st (o_st (o_st (o_st (o_st (o_st (0 : Int64) (w0 &&& (255 : Int32))) (w1 &&& (255 : Int32))) (w2 &&& (255 : Int32))) (w3 &&& (255 : Int32))) (w4 &&& (255 : Int32))) (w5 &&& (255 : Int32))) (w6 &&& (255 : Int32))) (w7 &&& (255 : Int32)))), .second, .val (.int (8 : Int32))]) rfl (n := 37) rfl ?_
  refine o_goto X0 hx (hb hby d_prog_28_method_5_code_37) (by decide) (n := 4) (by decide) ?_
  refine o_iloadN X0 hx (hb hby d_prog_28_method_5_code_4) (v := (8 : Int32)) rfl (n := 5) rfl ?_
  refine o_bipush X0 hx (hb hby d_prog_28_method_5_code_5) (v := (8 : Int32)) rfl (n := 7) rfl ?_
  refine o_icmpY X0 hx (hb hby d_prog_28_method_5_code_7) (XT.ii_ge_t (by decide)) (by decide) (n := 40) (by decide) ?_
  refine o_lloadN X0 hx (hb hby d_prog_28_method_5_code_40) (v := (o_st (o_st (o_st (o_st (o_st (o_st (o_st (o_st (0 : Int64) (w0 &&& (255 : Int32))) (w1 &&& (255 : Int32))) (w2 &&& (255 : Int32))) (w3 &&& (255 : Int32))) (w4 &&& (255 : Int32))) (w5 &&& (255 : Int32))) (w6 &&& (255 : Int32))) (w7 &&& (255 : Int32)))) rfl (n := 41) rfl ?_
  exact o_lreturn X0 hx hret hlk (hb hby d_prog_28_method_5_code_41) (by decide) (by decide) e0 ⟨rfl, rfl, rfl⟩
theorem o_ef20 (m : MethodId) (p0 : Int64) : entryFrame m #[(.long p0), (.int (9 : Int32))] 3 = mkF m 0 #[.val (.long p0), .second, .val (.int (9 : Int32))] [] := by first | (simp [entryFrame, mkF, argsToLocals, Value.category]; done) | rfl
set_option maxRecDepth 65536 in
set_option maxHeartbeats 40000000 in
theorem c_exp_9 (l : Launch) (Z : State) (a0 : Array Value) (hw : ∀ d ∈ tables_1, d.before a0 Z = true) (p0 : Int64) (h0 : Heap) :
    Does l Z (⟨"com/example/variform/variform/variant/Utf8HeadPinLaw", "expected", "(JI)J"⟩ : MethodName) method_2_code 3 (some .long) [] ({ frames := 0, cells := 0, slots := 0, locals := 0 } : Room) #[(.long p0), (.int (9 : Int32))] h0 (Pur h0 (.long p0)) := by
  refine Does.of (plainFor_of_name o_pn1) ?_
  intro p e s m below meth c T0 hx hby hml hown hnm hret hlk hZ X0 e0
  have hown : s.vm.findClass "com/example/variform/variform/variant/Utf8HeadPinLaw" = some m.cls := hown
  have hml : c.maxLocals = 3 := hml
  have hret : meth.sig.returnType = some .long := hret
  refine o_entry (o_ef20 m p0) ?_
  refine o_iloadN X0 hx (hb hby d_method_2_code_0) (v := (9 : Int32)) rfl (n := 1) rfl ?_
  refine o_ifY X0 hx (hb hby d_method_2_code_1) (XT.i0_ne_t (by decide)) (by decide) (n := 6) (by decide) ?_
  refine o_iloadN X0 hx (hb hby d_method_2_code_6) (v := (9 : Int32)) rfl (n := 7) rfl ?_
  refine o_bipush X0 hx (hb hby d_method_2_code_7) (v := (8 : Int32)) rfl (n := 9) rfl ?_
  refine o_icmpN X0 hx (hb hby d_method_2_code_9) (XT.ii_lt_f (by decide)) (n := 12) rfl ?_
  refine o_lloadN X0 hx (hb hby d_method_2_code_12) (v := p0) rfl (n := 13) rfl ?_
  exact o_lreturn X0 hx hret hlk (hb hby d_method_2_code_13) (by decide) (by decide) e0 ⟨rfl, rfl, rfl⟩
theorem o_ef21 (m : MethodId) (a1 : Addr) : entryFrame m #[(.ref a1)] 4 = mkF m 0 #[.val (.ref a1), .unset, .unset, .unset] [] := by first | (simp [entryFrame, mkF, argsToLocals, Value.category]; done) | rfl
set_option maxRecDepth 65536 in
set_option maxHeartbeats 40000000 in
theorem c_head_10 (l : Launch) (Z : State) (a0 : Array Value) (hw : ∀ d ∈ tables_1, d.before a0 Z = true) (a1 : Addr) (k1 : ClassId) (w0 : Int32) (w1 : Int32) (w2 : Int32) (w3 : Int32) (w4 : Int32) (w5 : Int32) (w6 : Int32) (w7 : Int32) (w8 : Int32) (w9 : Int32) (h0 : Heap) (pV_a1 : Arv Z h0 a1 k1 .byte (10 : Int32) [(.int w0), (.int w1), (.int w2), (.int w3), (.int w4), (.int w5), (.int w6), (.int w7), (.int w8), (.int w9)] (.int (0 : Int32))) :
    Does l Z (⟨"com/example/variform/variform/variant/Utf8", "head", "([B)J"⟩ : MethodName) prog_28_method_5_code 4 (some .long) [] ({ frames := 0, cells := 0, slots := 0, locals := 0 } : Room) #[(.ref a1)] h0 (Pur h0 (.long (o_st (o_st (o_st (o_st (o_st (o_st (o_st (o_st (0 : Int64) (w0 &&& (255 : Int32))) (w1 &&& (255 : Int32))) (w2 &&& (255 : Int32))) (w3 &&& (255 : Int32))) (w4 &&& (255 : Int32))) (w5 &&& (255 : Int32))) (w6 &&& (255 : Int32))) (w7 &&& (255 : Int32))))) := by
  refine Does.of (plainFor_of_name o_pn0) ?_
  intro p e s m below meth c T0 hx hby hml hown hnm hret hlk hZ X0 e0
  have hown : s.vm.findClass "com/example/variform/variform/variant/Utf8" = some m.cls := hown
  have hml : c.maxLocals = 4 := hml
  have hret : meth.sig.returnType = some .long := hret
  refine o_entry (o_ef21 m a1) ?_
  refine o_lconst X0 hx (hb hby d_prog_28_method_5_code_0) (v := (0 : Int64)) rfl (n := 1) rfl ?_
  refine o_lstoreN X0 hx (hb hby d_prog_28_method_5_code_1) (Ls' := #[.val (.ref a1), .val (.long (0 : Int64)), .second, .unset]) rfl (n := 2) rfl ?_
  refine o_iconst X0 hx (hb hby d_prog_28_method_5_code_2) (v := (0 : Int32)) rfl (n := 3) rfl ?_
  refine o_istoreN X0 hx (hb hby d_prog_28_method_5_code_3) (Ls' := #[.val (.ref a1), .val (.long (0 : Int64)), .second, .val (.int (0 : Int32))]) rfl (n := 4) rfl ?_
  refine o_iloadN X0 hx (hb hby d_prog_28_method_5_code_4) (v := (0 : Int32)) rfl (n := 5) rfl ?_
  refine o_bipush X0 hx (hb hby d_prog_28_method_5_code_5) (v := (8 : Int32)) rfl (n := 7) rfl ?_
  refine o_icmpN X0 hx (hb hby d_prog_28_method_5_code_7) (XT.ii_ge_f (by decide)) (n := 10) rfl ?_
  refine o_lloadN X0 hx (hb hby d_prog_28_method_5_code_10) (v := (0 : Int64)) rfl (n := 11) rfl ?_
  refine o_bipush X0 hx (hb hby d_prog_28_method_5_code_11) (v := (8 : Int32)) rfl (n := 13) rfl ?_
  refine o_lshl X0 hx (hb hby d_prog_28_method_5_code_13) (v := ((0 : Int64) <<< (8 : Int64))) rfl (n := 14) rfl ?_
  refine o_iloadN X0 hx (hb hby d_prog_28_method_5_code_14) (v := (0 : Int32)) rfl (n := 15) rfl ?_
  refine o_aloadN X0 hx (hb hby d_prog_28_method_5_code_15) (v := (.ref a1)) rfl rfl (n := 16) rfl ?_
  refine o_arraylength X0 hx hZ e0 pV_a1 (hb hby d_prog_28_method_5_code_16) (n := 17) rfl ?_
  refine o_icmpN X0 hx (hb hby d_prog_28_method_5_code_17) (XT.ii_ge_f (by decide)) (n := 20) rfl ?_
  refine o_aloadN X0 hx (hb hby d_prog_28_method_5_code_20) (v := (.ref a1)) rfl rfl (n := 21) rfl ?_
  refine o_iloadN X0 hx (hb hby d_prog_28_method_5_code_21) (v := (0 : Int32)) rfl (n := 22) rfl ?_
  refine o_baload X0 hx hZ e0 pV_a1 (0) (by decide) (by decide) (v := (.int w0)) rfl (hb hby d_prog_28_method_5_code_22) (n := 23) rfl ?_
  refine o_sipush X0 hx (hb hby d_prog_28_method_5_code_23) (v := (255 : Int32)) rfl (n := 26) rfl ?_
  refine o_iand X0 hx (hb hby d_prog_28_method_5_code_26) (v := (w0 &&& (255 : Int32))) rfl (n := 27) rfl ?_
  refine o_goto X0 hx (hb hby d_prog_28_method_5_code_27) (by decide) (n := 31) (by decide) ?_
  refine o_i2l X0 hx (hb hby d_prog_28_method_5_code_31) (v := (w0 &&& (255 : Int32)).toInt64) rfl (n := 32) rfl ?_
  refine o_lor X0 hx (hb hby d_prog_28_method_5_code_32) (v := (o_st (0 : Int64) (w0 &&& (255 : Int32)))) rfl (n := 33) rfl ?_
  refine o_lstoreN X0 hx (hb hby d_prog_28_method_5_code_33) (Ls' := #[.val (.ref a1), .val (.long (o_st (0 : Int64) (w0 &&& (255 : Int32)))), .second, .val (.int (0 : Int32))]) rfl (n := 34) rfl ?_
  refine o_iinc X0 hx (hb hby d_prog_28_method_5_code_34) (w := (1 : Int32)) rfl (by decide) (Ls' := #[.val (.ref a1), .val (.long (o_st (0 : Int64) (w0 &&& (255 : Int32)))), .second, .val (.int (1 : Int32))]) rfl (n := 37) rfl ?_
  refine o_goto X0 hx (hb hby d_prog_28_method_5_code_37) (by decide) (n := 4) (by decide) ?_
  refine o_iloadN X0 hx (hb hby d_prog_28_method_5_code_4) (v := (1 : Int32)) rfl (n := 5) rfl ?_
  refine o_bipush X0 hx (hb hby d_prog_28_method_5_code_5) (v := (8 : Int32)) rfl (n := 7) rfl ?_
  refine o_icmpN X0 hx (hb hby d_prog_28_method_5_code_7) (XT.ii_ge_f (by decide)) (n := 10) rfl ?_
  refine o_lloadN X0 hx (hb hby d_prog_28_method_5_code_10) (v := (o_st (0 : Int64) (w0 &&& (255 : Int32)))) rfl (n := 11) rfl ?_
  refine o_bipush X0 hx (hb hby d_prog_28_method_5_code_11) (v := (8 : Int32)) rfl (n := 13) rfl ?_
  refine o_lshl X0 hx (hb hby d_prog_28_method_5_code_13) (v := ((o_st (0 : Int64) (w0 &&& (255 : Int32))) <<< (8 : Int64))) rfl (n := 14) rfl ?_
  refine o_iloadN X0 hx (hb hby d_prog_28_method_5_code_14) (v := (1 : Int32)) rfl (n := 15) rfl ?_
  refine o_aloadN X0 hx (hb hby d_prog_28_method_5_code_15) (v := (.ref a1)) rfl rfl (n := 16) rfl ?_
  refine o_arraylength X0 hx hZ e0 pV_a1 (hb hby d_prog_28_method_5_code_16) (n := 17) rfl ?_
  refine o_icmpN X0 hx (hb hby d_prog_28_method_5_code_17) (XT.ii_ge_f (by decide)) (n := 20) rfl ?_
  refine o_aloadN X0 hx (hb hby d_prog_28_method_5_code_20) (v := (.ref a1)) rfl rfl (n := 21) rfl ?_
  refine o_iloadN X0 hx (hb hby d_prog_28_method_5_code_21) (v := (1 : Int32)) rfl (n := 22) rfl ?_
  refine o_baload X0 hx hZ e0 pV_a1 (1) (by decide) (by decide) (v := (.int w1)) rfl (hb hby d_prog_28_method_5_code_22) (n := 23) rfl ?_
  refine o_sipush X0 hx (hb hby d_prog_28_method_5_code_23) (v := (255 : Int32)) rfl (n := 26) rfl ?_
  refine o_iand X0 hx (hb hby d_prog_28_method_5_code_26) (v := (w1 &&& (255 : Int32))) rfl (n := 27) rfl ?_
  refine o_goto X0 hx (hb hby d_prog_28_method_5_code_27) (by decide) (n := 31) (by decide) ?_
  refine o_i2l X0 hx (hb hby d_prog_28_method_5_code_31) (v := (w1 &&& (255 : Int32)).toInt64) rfl (n := 32) rfl ?_
  refine o_lor X0 hx (hb hby d_prog_28_method_5_code_32) (v := (o_st (o_st (0 : Int64) (w0 &&& (255 : Int32))) (w1 &&& (255 : Int32)))) rfl (n := 33) rfl ?_
  refine o_lstoreN X0 hx (hb hby d_prog_28_method_5_code_33) (Ls' := #[.val (.ref a1), .val (.long (o_st (o_st (0 : Int64) (w0 &&& (255 : Int32))) (w1 &&& (255 : Int32)))), .second, .val (.int (1 : Int32))]) rfl (n := 34) rfl ?_
  refine o_iinc X0 hx (hb hby d_prog_28_method_5_code_34) (w := (2 : Int32)) rfl (by decide) (Ls' := #[.val (.ref a1), .val (.long (o_st (o_st (0 : Int64) (w0 &&& (255 : Int32))) (w1 &&& (255 : Int32)))), .second, .val (.int (2 : Int32))]) rfl (n := 37) rfl ?_
  refine o_goto X0 hx (hb hby d_prog_28_method_5_code_37) (by decide) (n := 4) (by decide) ?_
  refine o_iloadN X0 hx (hb hby d_prog_28_method_5_code_4) (v := (2 : Int32)) rfl (n := 5) rfl ?_
  refine o_bipush X0 hx (hb hby d_prog_28_method_5_code_5) (v := (8 : Int32)) rfl (n := 7) rfl ?_
  refine o_icmpN X0 hx (hb hby d_prog_28_method_5_code_7) (XT.ii_ge_f (by decide)) (n := 10) rfl ?_
  refine o_lloadN X0 hx (hb hby d_prog_28_method_5_code_10) (v := (o_st (o_st (0 : Int64) (w0 &&& (255 : Int32))) (w1 &&& (255 : Int32)))) rfl (n := 11) rfl ?_
  refine o_bipush X0 hx (hb hby d_prog_28_method_5_code_11) (v := (8 : Int32)) rfl (n := 13) rfl ?_
  refine o_lshl X0 hx (hb hby d_prog_28_method_5_code_13) (v := ((o_st (o_st (0 : Int64) (w0 &&& (255 : Int32))) (w1 &&& (255 : Int32))) <<< (8 : Int64))) rfl (n := 14) rfl ?_
  refine o_iloadN X0 hx (hb hby d_prog_28_method_5_code_14) (v := (2 : Int32)) rfl (n := 15) rfl ?_
  refine o_aloadN X0 hx (hb hby d_prog_28_method_5_code_15) (v := (.ref a1)) rfl rfl (n := 16) rfl ?_
  refine o_arraylength X0 hx hZ e0 pV_a1 (hb hby d_prog_28_method_5_code_16) (n := 17) rfl ?_
  refine o_icmpN X0 hx (hb hby d_prog_28_method_5_code_17) (XT.ii_ge_f (by decide)) (n := 20) rfl ?_
  refine o_aloadN X0 hx (hb hby d_prog_28_method_5_code_20) (v := (.ref a1)) rfl rfl (n := 21) rfl ?_
  refine o_iloadN X0 hx (hb hby d_prog_28_method_5_code_21) (v := (2 : Int32)) rfl (n := 22) rfl ?_
  refine o_baload X0 hx hZ e0 pV_a1 (2) (by decide) (by decide) (v := (.int w2)) rfl (hb hby d_prog_28_method_5_code_22) (n := 23) rfl ?_
  refine o_sipush X0 hx (hb hby d_prog_28_method_5_code_23) (v := (255 : Int32)) rfl (n := 26) rfl ?_
  refine o_iand X0 hx (hb hby d_prog_28_method_5_code_26) (v := (w2 &&& (255 : Int32))) rfl (n := 27) rfl ?_
  refine o_goto X0 hx (hb hby d_prog_28_method_5_code_27) (by decide) (n := 31) (by decide) ?_
  refine o_i2l X0 hx (hb hby d_prog_28_method_5_code_31) (v := (w2 &&& (255 : Int32)).toInt64) rfl (n := 32) rfl ?_
  refine o_lor X0 hx (hb hby d_prog_28_method_5_code_32) (v := (o_st (o_st (o_st (0 : Int64) (w0 &&& (255 : Int32))) (w1 &&& (255 : Int32))) (w2 &&& (255 : Int32)))) rfl (n := 33) rfl ?_
  refine o_lstoreN X0 hx (hb hby d_prog_28_method_5_code_33) (Ls' := #[.val (.ref a1), .val (.long (o_st (o_st (o_st (0 : Int64) (w0 &&& (255 : Int32))) (w1 &&& (255 : Int32))) (w2 &&& (255 : Int32)))), .second, .val (.int (2 : Int32))]) rfl (n := 34) rfl ?_
  refine o_iinc X0 hx (hb hby d_prog_28_method_5_code_34) (w := (3 : Int32)) rfl (by decide) (Ls' := #[.val (.ref a1), .val (.long (o_st (o_st (o_st (0 : Int64) (w0 &&& (255 : Int32))) (w1 &&& (255 : Int32))) (w2 &&& (255 : Int32)))), .second, .val (.int (3 : Int32))]) rfl (n := 37) rfl ?_
  refine o_goto X0 hx (hb hby d_prog_28_method_5_code_37) (by decide) (n := 4) (by decide) ?_
  refine o_iloadN X0 hx (hb hby d_prog_28_method_5_code_4) (v := (3 : Int32)) rfl (n := 5) rfl ?_
  refine o_bipush X0 hx (hb hby d_prog_28_method_5_code_5) (v := (8 : Int32)) rfl (n := 7) rfl ?_
  refine o_icmpN X0 hx (hb hby d_prog_28_method_5_code_7) (XT.ii_ge_f (by decide)) (n := 10) rfl ?_
  refine o_lloadN X0 hx (hb hby d_prog_28_method_5_code_10) (v := (o_st (o_st (o_st (0 : Int64) (w0 &&& (255 : Int32))) (w1 &&& (255 : Int32))) (w2 &&& (255 : Int32)))) rfl (n := 11) rfl ?_
  refine o_bipush X0 hx (hb hby d_prog_28_method_5_code_11) (v := (8 : Int32)) rfl (n := 13) rfl ?_
  refine o_lshl X0 hx (hb hby d_prog_28_method_5_code_13) (v := ((o_st (o_st (o_st (0 : Int64) (w0 &&& (255 : Int32))) (w1 &&& (255 : Int32))) (w2 &&& (255 : Int32))) <<< (8 : Int64))) rfl (n := 14) rfl ?_
  refine o_iloadN X0 hx (hb hby d_prog_28_method_5_code_14) (v := (3 : Int32)) rfl (n := 15) rfl ?_
  refine o_aloadN X0 hx (hb hby d_prog_28_method_5_code_15) (v := (.ref a1)) rfl rfl (n := 16) rfl ?_
  refine o_arraylength X0 hx hZ e0 pV_a1 (hb hby d_prog_28_method_5_code_16) (n := 17) rfl ?_
  refine o_icmpN X0 hx (hb hby d_prog_28_method_5_code_17) (XT.ii_ge_f (by decide)) (n := 20) rfl ?_
  refine o_aloadN X0 hx (hb hby d_prog_28_method_5_code_20) (v := (.ref a1)) rfl rfl (n := 21) rfl ?_
  refine o_iloadN X0 hx (hb hby d_prog_28_method_5_code_21) (v := (3 : Int32)) rfl (n := 22) rfl ?_
  refine o_baload X0 hx hZ e0 pV_a1 (3) (by decide) (by decide) (v := (.int w3)) rfl (hb hby d_prog_28_method_5_code_22) (n := 23) rfl ?_
  refine o_sipush X0 hx (hb hby d_prog_28_method_5_code_23) (v := (255 : Int32)) rfl (n := 26) rfl ?_
  refine o_iand X0 hx (hb hby d_prog_28_method_5_code_26) (v := (w3 &&& (255 : Int32))) rfl (n := 27) rfl ?_
  refine o_goto X0 hx (hb hby d_prog_28_method_5_code_27) (by decide) (n := 31) (by decide) ?_
  refine o_i2l X0 hx (hb hby d_prog_28_method_5_code_31) (v := (w3 &&& (255 : Int32)).toInt64) rfl (n := 32) rfl ?_
  refine o_lor X0 hx (hb hby d_prog_28_method_5_code_32) (v := (o_st (o_st (o_st (o_st (0 : Int64) (w0 &&& (255 : Int32))) (w1 &&& (255 : Int32))) (w2 &&& (255 : Int32))) (w3 &&& (255 : Int32)))) rfl (n := 33) rfl ?_
  refine o_lstoreN X0 hx (hb hby d_prog_28_method_5_code_33) (Ls' := #[.val (.ref a1), .val (.long (o_st (o_st (o_st (o_st (0 : Int64) (w0 &&& (255 : Int32))) (w1 &&& (255 : Int32))) (w2 &&& (255 : Int32))) (w3 &&& (255 : Int32)))), .second, .val (.int (3 : Int32))]) rfl (n := 34) rfl ?_
  refine o_iinc X0 hx (hb hby d_prog_28_method_5_code_34) (w := (4 : Int32)) rfl (by decide) (Ls' := #[.val (.ref a1), .val (.long (o_st (o_st (o_st (o_st (0 : Int64) (w0 &&& (255 : Int32))) (w1 &&& (255 : Int32))) (w2 &&& (255 : Int32))) (w3 &&& (255 : Int32)))), .second, .val (.int (4 : Int32))]) rfl (n := 37) rfl ?_
  refine o_goto X0 hx (hb hby d_prog_28_method_5_code_37) (by decide) (n := 4) (by decide) ?_
  refine o_iloadN X0 hx (hb hby d_prog_28_method_5_code_4) (v := (4 : Int32)) rfl (n := 5) rfl ?_
  refine o_bipush X0 hx (hb hby d_prog_28_method_5_code_5) (v := (8 : Int32)) rfl (n := 7) rfl ?_
  refine o_icmpN X0 hx (hb hby d_prog_28_method_5_code_7) (XT.ii_ge_f (by decide)) (n := 10) rfl ?_
  refine o_lloadN X0 hx (hb hby d_prog_28_method_5_code_10) (v := (o_st (o_st (o_st (o_st (0 : Int64) (w0 &&& (255 : Int32))) (w1 &&& (255 : Int32))) (w2 &&& (255 : Int32))) (w3 &&& (255 : Int32)))) rfl (n := 11) rfl ?_
  refine o_bipush X0 hx (hb hby d_prog_28_method_5_code_11) (v := (8 : Int32)) rfl (n := 13) rfl ?_
  refine o_lshl X0 hx (hb hby d_prog_28_method_5_code_13) (v := ((o_st (o_st (o_st (o_st (0 : Int64) (w0 &&& (255 : Int32))) (w1 &&& (255 : Int32))) (w2 &&& (255 : Int32))) (w3 &&& (255 : Int32))) <<< (8 : Int64))) rfl (n := 14) rfl ?_
  refine o_iloadN X0 hx (hb hby d_prog_28_method_5_code_14) (v := (4 : Int32)) rfl (n := 15) rfl ?_
  refine o_aloadN X0 hx (hb hby d_prog_28_method_5_code_15) (v := (.ref a1)) rfl rfl (n := 16) rfl ?_
  refine o_arraylength X0 hx hZ e0 pV_a1 (hb hby d_prog_28_method_5_code_16) (n := 17) rfl ?_
  refine o_icmpN X0 hx (hb hby d_prog_28_method_5_code_17) (XT.ii_ge_f (by decide)) (n := 20) rfl ?_
  refine o_aloadN X0 hx (hb hby d_prog_28_method_5_code_20) (v := (.ref a1)) rfl rfl (n := 21) rfl ?_
  refine o_iloadN X0 hx (hb hby d_prog_28_method_5_code_21) (v := (4 : Int32)) rfl (n := 22) rfl ?_
  refine o_baload X0 hx hZ e0 pV_a1 (4) (by decide) (by decide) (v := (.int w4)) rfl (hb hby d_prog_28_method_5_code_22) (n := 23) rfl ?_
  refine o_sipush X0 hx (hb hby d_prog_28_method_5_code_23) (v := (255 : Int32)) rfl (n := 26) rfl ?_
  refine o_iand X0 hx (hb hby d_prog_28_method_5_code_26) (v := (w4 &&& (255 : Int32))) rfl (n := 27) rfl ?_
  refine o_goto X0 hx (hb hby d_prog_28_method_5_code_27) (by decide) (n := 31) (by decide) ?_
  refine o_i2l X0 hx (hb hby d_prog_28_method_5_code_31) (v := (w4 &&& (255 : Int32)).toInt64) rfl (n := 32) rfl ?_
  refine o_lor X0 hx (hb hby d_prog_28_method_5_code_32) (v := (o_st (o_st (o_st (o_st (o_st (0 : Int64) (w0 &&& (255 : Int32))) (w1 &&& (255 : Int32))) (w2 &&& (255 : Int32))) (w3 &&& (255 : Int32))) (w4 &&& (255 : Int32)))) rfl (n := 33) rfl ?_
  refine o_lstoreN X0 hx (hb hby d_prog_28_method_5_code_33) (Ls' := #[.val (.ref a1), .val (.long (o_st (o_st (o_st (o_st (o_st (0 : Int64) (w0 &&& (255 : Int32))) (w1 &&& (255 : Int32))) (w2 &&& (255 : Int32))) (w3 &&& (255 : Int32))) (w4 &&& (255 : Int32)))), .second, .val (.int (4 : Int32))]) rfl (n := 34) rfl ?_
  refine o_iinc X0 hx (hb hby d_prog_28_method_5_code_34) (w := (5 : Int32)) rfl (by decide) (Ls' := #[.val (.ref a1), .val (.long (o_st (o_st (o_st (o_st (o_st (0 : Int64) (w0 &&& (255 : Int32))) (w1 &&& (255 : Int32))) (w2 &&& (255 : Int32))) (w3 &&& (255 : Int32))) (w4 &&& (255 : Int32)))), .second, .val (.int (5 : Int32))]) rfl (n := 37) rfl ?_
  refine o_goto X0 hx (hb hby d_prog_28_method_5_code_37) (by decide) (n := 4) (by decide) ?_
  refine o_iloadN X0 hx (hb hby d_prog_28_method_5_code_4) (v := (5 : Int32)) rfl (n := 5) rfl ?_
  refine o_bipush X0 hx (hb hby d_prog_28_method_5_code_5) (v := (8 : Int32)) rfl (n := 7) rfl ?_
  refine o_icmpN X0 hx (hb hby d_prog_28_method_5_code_7) (XT.ii_ge_f (by decide)) (n := 10) rfl ?_
  refine o_lloadN X0 hx (hb hby d_prog_28_method_5_code_10) (v := (o_st (o_st (o_st (o_st (o_st (0 : Int64) (w0 &&& (255 : Int32))) (w1 &&& (255 : Int32))) (w2 &&& (255 : Int32))) (w3 &&& (255 : Int32))) (w4 &&& (255 : Int32)))) rfl (n := 11) rfl ?_
  refine o_bipush X0 hx (hb hby d_prog_28_method_5_code_11) (v := (8 : Int32)) rfl (n := 13) rfl ?_
  refine o_lshl X0 hx (hb hby d_prog_28_method_5_code_13) (v := ((o_st (o_st (o_st (o_st (o_st (0 : Int64) (w0 &&& (255 : Int32))) (w1 &&& (255 : Int32))) (w2 &&& (255 : Int32))) (w3 &&& (255 : Int32))) (w4 &&& (255 : Int32))) <<< (8 : Int64))) rfl (n := 14) rfl ?_
  refine o_iloadN X0 hx (hb hby d_prog_28_method_5_code_14) (v := (5 : Int32)) rfl (n := 15) rfl ?_
  refine o_aloadN X0 hx (hb hby d_prog_28_method_5_code_15) (v := (.ref a1)) rfl rfl (n := 16) rfl ?_
  refine o_arraylength X0 hx hZ e0 pV_a1 (hb hby d_prog_28_method_5_code_16) (n := 17) rfl ?_
  refine o_icmpN X0 hx (hb hby d_prog_28_method_5_code_17) (XT.ii_ge_f (by decide)) (n := 20) rfl ?_
  refine o_aloadN X0 hx (hb hby d_prog_28_method_5_code_20) (v := (.ref a1)) rfl rfl (n := 21) rfl ?_
  refine o_iloadN X0 hx (hb hby d_prog_28_method_5_code_21) (v := (5 : Int32)) rfl (n := 22) rfl ?_
  refine o_baload X0 hx hZ e0 pV_a1 (5) (by decide) (by decide) (v := (.int w5)) rfl (hb hby d_prog_28_method_5_code_22) (n := 23) rfl ?_
  refine o_sipush X0 hx (hb hby d_prog_28_method_5_code_23) (v := (255 : Int32)) rfl (n := 26) rfl ?_
  refine o_iand X0 hx (hb hby d_prog_28_method_5_code_26) (v := (w5 &&& (255 : Int32))) rfl (n := 27) rfl ?_
  refine o_goto X0 hx (hb hby d_prog_28_method_5_code_27) (by decide) (n := 31) (by decide) ?_
  refine o_i2l X0 hx (hb hby d_prog_28_method_5_code_31) (v := (w5 &&& (255 : Int32)).toInt64) rfl (n := 32) rfl ?_
  refine o_lor X0 hx (hb hby d_prog_28_method_5_code_32) (v := (o_st (o_st (o_st (o_st (o_st (o_st (0 : Int64) (w0 &&& (255 : Int32))) (w1 &&& (255 : Int32))) (w2 &&& (255 : Int32))) (w3 &&& (255 : Int32))) (w4 &&& (255 : Int32))) (w5 &&& (255 : Int32)))) rfl (n := 33) rfl ?_
  refine o_lstoreN X0 hx (hb hby d_prog_28_method_5_code_33) (Ls' := #[.val (.ref a1), .val (.long (o_st (o_st (o_st (o_st (o_st (o_st (0 : Int64) (w0 &&& (255 : Int32))) (w1 &&& (255 : Int32))) (w2 &&& (255 : Int32))) (w3 &&& (255 : Int32))) (w4 &&& (255 : Int32))) (w5 &&& (255 : Int32)))), .second, .val (.int (5 : Int32))]) rfl (n := 34) rfl ?_
  refine o_iinc X0 hx (hb hby d_prog_28_method_5_code_34) (w := (6 : Int32)) rfl (by decide) (Ls' := #[.val (.ref a1), .val (.long (o_st (o_st (o_st (o_st (o_st (o_st (0 : Int64) (w0 &&& (255 : Int32))) (w1 &&& (255 : Int32))) (w2 &&& (255 : Int32))) (w3 &&& (255 : Int32))) (w4 &&& (255 : Int32))) (w5 &&& (255 : Int32)))), .second, .val (.int (6 : Int32))]) rfl (n := 37) rfl ?_
  refine o_goto X0 hx (hb hby d_prog_28_method_5_code_37) (by decide) (n := 4) (by decide) ?_
  refine o_iloadN X0 hx (hb hby d_prog_28_method_5_code_4) (v := (6 : Int32)) rfl (n := 5) rfl ?_
  refine o_bipush X0 hx (hb hby d_prog_28_method_5_code_5) (v := (8 : Int32)) rfl (n := 7) rfl ?_
  refine o_icmpN X0 hx (hb hby d_prog_28_method_5_code_7) (XT.ii_ge_f (by decide)) (n := 10) rfl ?_
  refine o_lloadN X0 hx (hb hby d_prog_28_method_5_code_10) (v := (o_st (o_st (o_st (o_st (o_st (o_st (0 : Int64) (w0 &&& (255 : Int32))) (w1 &&& (255 : Int32))) (w2 &&& (255 : Int32))) (w3 &&& (255 : Int32))) (w4 &&& (255 : Int32))) (w5 &&& (255 : Int32)))) rfl (n := 11) rfl ?_
  refine o_bipush X0 hx (hb hby d_prog_28_method_5_code_11) (v := (8 : Int32)) rfl (n := 13) rfl ?_
  refine o_lshl X0 hx (hb hby d_prog_28_method_5_code_13) (v := ((o_st (o_st (o_st (o_st (o_st (o_st (0 : Int64) (w0 &&& (255 : Int32))) (w1 &&& (255 : Int32))) (w2 &&& (255 : Int32))) (w3 &&& (255 : Int32))) (w4 &&& (255 : Int32))) (w5 &&& (255 : Int32))) <<< (8 : Int64))) rfl (n := 14) rfl ?_
  refine o_iloadN X0 hx (hb hby d_prog_28_method_5_code_14) (v := (6 : Int32)) rfl (n := 15) rfl ?_
  refine o_aloadN X0 hx (hb hby d_prog_28_method_5_code_15) (v := (.ref a1)) rfl rfl (n := 16) rfl ?_
  refine o_arraylength X0 hx hZ e0 pV_a1 (hb hby d_prog_28_method_5_code_16) (n := 17) rfl ?_
  refine o_icmpN X0 hx (hb hby d_prog_28_method_5_code_17) (XT.ii_ge_f (by decide)) (n := 20) rfl ?_
  refine o_aloadN X0 hx (hb hby d_prog_28_method_5_code_20) (v := (.ref a1)) rfl rfl (n := 21) rfl ?_
  refine o_iloadN X0 hx (hb hby d_prog_28_method_5_code_21) (v := (6 : Int32)) rfl (n := 22) rfl ?_
  refine o_baload X0 hx hZ e0 pV_a1 (6) (by decide) (by decide) (v := (.int w6)) rfl (hb hby d_prog_28_method_5_code_22) (n := 23) rfl ?_
  refine o_sipush X0 hx (hb hby d_prog_28_method_5_code_23) (v := (255 : Int32)) rfl (n := 26) rfl ?_
  refine o_iand X0 hx (hb hby d_prog_28_method_5_code_26) (v := (w6 &&& (255 : Int32))) rfl (n := 27) rfl ?_
  refine o_goto X0 hx (hb hby d_prog_28_method_5_code_27) (by decide) (n := 31) (by decide) ?_
  refine o_i2l X0 hx (hb hby d_prog_28_method_5_code_31) (v := (w6 &&& (255 : Int32)).toInt64) rfl (n := 32) rfl ?_
  refine o_lor X0 hx (hb hby d_prog_28_method_5_code_32) (v := (o_st (o_st (o_st (o_st (o_st (o_st (o_st (0 : Int64) (w0 &&& (255 : Int32))) (w1 &&& (255 : Int32))) (w2 &&& (255 : Int32))) (w3 &&& (255 : Int32))) (w4 &&& (255 : Int32))) (w5 &&& (255 : Int32))) (w6 &&& (255 : Int32)))) rfl (n := 33) rfl ?_
  refine o_lstoreN X0 hx (hb hby d_prog_28_method_5_code_33) (Ls' := #[.val (.ref a1), .val (.long (o_st (o_st (o_st (o_st (o_st (o_st (o_st (0 : Int64) (w0 &&& (255 : Int32))) (w1 &&& (255 : Int32))) (w2 &&& (255 : Int32))) (w3 &&& (255 : Int32))) (w4 &&& (255 : Int32))) (w5 &&& (255 : Int32))) (w6 &&& (255 : Int32)))), .second, .val (.int (6 : Int32))]) rfl (n := 34) rfl ?_
  refine o_iinc X0 hx (hb hby d_prog_28_method_5_code_34) (w := (7 : Int32)) rfl (by decide) (Ls' := #[.val (.ref a1), .val (.long (o_st (o_st (o_st (o_st (o_st (o_st (o_st (0 : Int64) (w0 &&& (255 : Int32))) (w1 &&& (255 : Int32))) (w2 &&& (255 : Int32))) (w3 &&& (255 : Int32))) (w4 &&& (255 : Int32))) (w5 &&& (255 : Int32))) (w6 &&& (255 : Int32)))), .second, .val (.int (7 : Int32))]) rfl (n := 37) rfl ?_
  refine o_goto X0 hx (hb hby d_prog_28_method_5_code_37) (by decide) (n := 4) (by decide) ?_
  refine o_iloadN X0 hx (hb hby d_prog_28_method_5_code_4) (v := (7 : Int32)) rfl (n := 5) rfl ?_
  refine o_bipush X0 hx (hb hby d_prog_28_method_5_code_5) (v := (8 : Int32)) rfl (n := 7) rfl ?_
  refine o_icmpN X0 hx (hb hby d_prog_28_method_5_code_7) (XT.ii_ge_f (by decide)) (n := 10) rfl ?_
  refine o_lloadN X0 hx (hb hby d_prog_28_method_5_code_10) (v := (o_st (o_st (o_st (o_st (o_st (o_st (o_st (0 : Int64) (w0 &&& (255 : Int32))) (w1 &&& (255 : Int32))) (w2 &&& (255 : Int32))) (w3 &&& (255 : Int32))) (w4 &&& (255 : Int32))) (w5 &&& (255 : Int32))) (w6 &&& (255 : Int32)))) rfl (n := 11) rfl ?_
  refine o_bipush X0 hx (hb hby d_prog_28_method_5_code_11) (v := (8 : Int32)) rfl (n := 13) rfl ?_
  refine o_lshl X0 hx (hb hby d_prog_28_method_5_code_13) (v := ((o_st (o_st (o_st (o_st (o_st (o_st (o_st (0 : Int64) (w0 &&& (255 : Int32))) (w1 &&& (255 : Int32))) (w2 &&& (255 : Int32))) (w3 &&& (255 : Int32))) (w4 &&& (255 : Int32))) (w5 &&& (255 : Int32))) (w6 &&& (255 : Int32))) <<< (8 : Int64))) rfl (n := 14) rfl ?_
  refine o_iloadN X0 hx (hb hby d_prog_28_method_5_code_14) (v := (7 : Int32)) rfl (n := 15) rfl ?_
  refine o_aloadN X0 hx (hb hby d_prog_28_method_5_code_15) (v := (.ref a1)) rfl rfl (n := 16) rfl ?_
  refine o_arraylength X0 hx hZ e0 pV_a1 (hb hby d_prog_28_method_5_code_16) (n := 17) rfl ?_
  refine o_icmpN X0 hx (hb hby d_prog_28_method_5_code_17) (XT.ii_ge_f (by decide)) (n := 20) rfl ?_
  refine o_aloadN X0 hx (hb hby d_prog_28_method_5_code_20) (v := (.ref a1)) rfl rfl (n := 21) rfl ?_
  refine o_iloadN X0 hx (hb hby d_prog_28_method_5_code_21) (v := (7 : Int32)) rfl (n := 22) rfl ?_
  refine o_baload X0 hx hZ e0 pV_a1 (7) (by decide) (by decide) (v := (.int w7)) rfl (hb hby d_prog_28_method_5_code_22) (n := 23) rfl ?_
  refine o_sipush X0 hx (hb hby d_prog_28_method_5_code_23) (v := (255 : Int32)) rfl (n := 26) rfl ?_
  refine o_iand X0 hx (hb hby d_prog_28_method_5_code_26) (v := (w7 &&& (255 : Int32))) rfl (n := 27) rfl ?_
  refine o_goto X0 hx (hb hby d_prog_28_method_5_code_27) (by decide) (n := 31) (by decide) ?_
  refine o_i2l X0 hx (hb hby d_prog_28_method_5_code_31) (v := (w7 &&& (255 : Int32)).toInt64) rfl (n := 32) rfl ?_
  refine o_lor X0 hx (hb hby d_prog_28_method_5_code_32) (v := (o_st (o_st (o_st (o_st (o_st (o_st (o_st (o_st (0 : Int64) (w0 &&& (255 : Int32))) (w1 &&& (255 : Int32))) (w2 &&& (255 : Int32))) (w3 &&& (255 : Int32))) (w4 &&& (255 : Int32))) (w5 &&& (255 : Int32))) (w6 &&& (255 : Int32))) (w7 &&& (255 : Int32)))) rfl (n := 33) rfl ?_
  refine o_lstoreN X0 hx (hb hby d_prog_28_method_5_code_33) (Ls' := #[.val (.ref a1), .val (.long (o_st (o_st (o_st (o_st (o_st (o_st (o_st (o_st (0 : Int64) (w0 &&& (255 : Int32))) (w1 &&& (255 : Int32))) (w2 &&& (255 : Int32))) (w3 &&& (255 : Int32))) (w4 &&& (255 : Int32))) (w5 &&& (255 : Int32))) (w6 &&& (255 : Int32))) (w7 &&& (255 : Int32)))), .second, .val (.int (7 : Int32))]) rfl (n := 34) rfl ?_
  refine o_iinc X0 hx (hb hby d_prog_28_method_5_code_34) (w := (8 : Int32)) rfl (by decide) (Ls' := #[.val (.ref a1), .val (.long (o_st (o_st (o_st (o_st (o_st (o_st (o_st (o_st (0 : Int64) (w0 &&& (255 : Int32))) (w1 &&& (255 : Int32))) (w2 &&& (255 : Int32))) (w3 &&& (255 : Int32))) (w4 &&& (255 : Int32))) (w5 &&& (255 : Int32))) (w6 &&& (255 : Int32))) (w7 &&& (255 : Int32)))), .second, .val (.int (8 : Int32))]) rfl (n := 37) rfl ?_
  refine o_goto X0 hx (hb hby d_prog_28_method_5_code_37) (by decide) (n := 4) (by decide) ?_
  refine o_iloadN X0 hx (hb hby d_prog_28_method_5_code_4) (v := (8 : Int32)) rfl (n := 5) rfl ?_
  refine o_bipush X0 hx (hb hby d_prog_28_method_5_code_5) (v := (8 : Int32)) rfl (n := 7) rfl ?_
  refine o_icmpY X0 hx (hb hby d_prog_28_method_5_code_7) (XT.ii_ge_t (by decide)) (by decide) (n := 40) (by decide) ?_
  refine o_lloadN X0 hx (hb hby d_prog_28_method_5_code_40) (v := (o_st (o_st (o_st (o_st (o_st (o_st (o_st (o_st (0 : Int64) (w0 &&& (255 : Int32))) (w1 &&& (255 : Int32))) (w2 &&& (255 : Int32))) (w3 &&& (255 : Int32))) (w4 &&& (255 : Int32))) (w5 &&& (255 : Int32))) (w6 &&& (255 : Int32))) (w7 &&& (255 : Int32)))) rfl (n := 41) rfl ?_
  exact o_lreturn X0 hx hret hlk (hb hby d_prog_28_method_5_code_41) (by decide) (by decide) e0 ⟨rfl, rfl, rfl⟩
theorem o_ef22 (m : MethodId) (p0 : Int64) : entryFrame m #[(.long p0), (.int (10 : Int32))] 3 = mkF m 0 #[.val (.long p0), .second, .val (.int (10 : Int32))] [] := by first | (simp [entryFrame, mkF, argsToLocals, Value.category]; done) | rfl
set_option maxRecDepth 65536 in
set_option maxHeartbeats 40000000 in
theorem c_exp_10 (l : Launch) (Z : State) (a0 : Array Value) (hw : ∀ d ∈ tables_1, d.before a0 Z = true) (p0 : Int64) (h0 : Heap) :
    Does l Z (⟨"com/example/variform/variform/variant/Utf8HeadPinLaw", "expected", "(JI)J"⟩ : MethodName) method_2_code 3 (some .long) [] ({ frames := 0, cells := 0, slots := 0, locals := 0 } : Room) #[(.long p0), (.int (10 : Int32))] h0 (Pur h0 (.long p0)) := by
  refine Does.of (plainFor_of_name o_pn1) ?_
  intro p e s m below meth c T0 hx hby hml hown hnm hret hlk hZ X0 e0
  have hown : s.vm.findClass "com/example/variform/variform/variant/Utf8HeadPinLaw" = some m.cls := hown
  have hml : c.maxLocals = 3 := hml
  have hret : meth.sig.returnType = some .long := hret
  refine o_entry (o_ef22 m p0) ?_
  refine o_iloadN X0 hx (hb hby d_method_2_code_0) (v := (10 : Int32)) rfl (n := 1) rfl ?_
  refine o_ifY X0 hx (hb hby d_method_2_code_1) (XT.i0_ne_t (by decide)) (by decide) (n := 6) (by decide) ?_
  refine o_iloadN X0 hx (hb hby d_method_2_code_6) (v := (10 : Int32)) rfl (n := 7) rfl ?_
  refine o_bipush X0 hx (hb hby d_method_2_code_7) (v := (8 : Int32)) rfl (n := 9) rfl ?_
  refine o_icmpN X0 hx (hb hby d_method_2_code_9) (XT.ii_lt_f (by decide)) (n := 12) rfl ?_
  refine o_lloadN X0 hx (hb hby d_method_2_code_12) (v := p0) rfl (n := 13) rfl ?_
  exact o_lreturn X0 hx hret hlk (hb hby d_method_2_code_13) (by decide) (by decide) e0 ⟨rfl, rfl, rfl⟩
theorem o_pd0 : parseMethodDescriptor "([B)J" = some ⟨[(.array .byte)], some .long⟩ := by decide +kernel
theorem o_pd1 : parseMethodDescriptor "(JI)J" = some ⟨[.long, .int], some .long⟩ := by decide +kernel
theorem o_ef23 (m : MethodId) (p0 : Int64) (p1 : Int32) (p2 : Int32) : entryFrame m #[(.long p0), (.int p1), (.int p2)] maxLocals = mkF m 0 #[.val (.long p0), .second, .val (.int p1), .val (.int p2), .unset, .unset, .unset, .unset] [] := by first | (simp [entryFrame, mkF, argsToLocals, Value.category, maxLocals]; done) | rfl
set_option maxRecDepth 65536 in
set_option maxHeartbeats 40000000 in
theorem o_law (l : Launch) (Z : State) (a0 : Array Value) (hw : ∀ d ∈ tables_1, d.before a0 Z = true) (p0 : Int64) (p1 : Int32) (p2 : Int32) (h0 : Heap) (n0 : Nat) (Z0 : n0 ≤ h0.size) :
    Does l Z x code maxLocals ret tables_1 room_1 #[(.long p0), (.int p1), (.int p2)] h0 (fun v h L => v = some (.int 1) ∧ Fr n0 L) := by
  refine Does.of (plainFor_of_name o_pn1) ?_
  intro p e s m below meth c T0 hx hby hml hown hnm hret hlk hZ X0 e0
  have hown : s.vm.findClass "com/example/variform/variform/variant/Utf8HeadPinLaw" = some m.cls := hown
  have hml : c.maxLocals = 8 := hml
  have hret : meth.sig.returnType = some .boolean := hret
  refine o_entry (o_ef23 m p0 p1 p2) ?_
  have N0 := Fr.nil n0
  rcases o_n11 p2 with q | q | q | q | q | q | q | q | q | q | q
  · refine o_iloadN X0 hx (hb hby at_0) (v := p2) rfl (n := 1) rfl ?_
    refine o_ldc X0 hx hZ (v := (2147483647 : Int32)) hown (hw _ (List.mem_of_getElem? (i := 0) rfl)) (hb hby at_1) (n := 3) rfl ?_
    refine o_iand X0 hx (hb hby at_3) (v := (p2 &&& (2147483647 : Int32))) rfl (n := 4) rfl ?_
    refine o_bipush X0 hx (hb hby at_4) (v := (11 : Int32)) rfl (n := 6) rfl ?_
    refine o_irem X0 hx (hb hby at_6) (by decide) (v := (0 : Int32)) q (n := 7) rfl ?_
    refine o_istore X0 hx (hb hby at_7) (Ls' := #[.val (.long p0), .second, .val (.int p1), .val (.int p2), .val (.int (0 : Int32)), .unset, .unset, .unset]) rfl (n := 9) rfl ?_
    refine o_iload X0 hx (hb hby at_9) (v := (0 : Int32)) rfl (n := 11) rfl ?_
    refine o_newarray X0 hx hZ (aty := .byte) (hw _ (List.mem_of_getElem? (i := 1) rfl)) e0 (hb hby at_11) (by decide) 0 (by decide) (by decide) (by decide) (by decide) (n := 13) rfl ?_
    intro T1 h1 b1 k1 X1 e1 g1 E1 V1
    have gg1 : n0 ≤ b1 := Nat.le_trans Z0 (Nat.le_of_eq g1.symm)
    have zz1 : n0 ≤ h1.size := Nat.le_trans Z0 E1.1
    have f2 : Arv Z h1 b1 k1 .byte (0 : Int32) [] (.int (0 : Int32)) := V1.pad (pad_rep [] (.int (0 : Int32)) 0)
    refine o_astore X1 hx (hb hby at_13) rfl (Ls' := #[.val (.long p0), .second, .val (.int p1), .val (.int p2), .val (.int (0 : Int32)), .val (.ref b1), .unset, .unset]) rfl (n := 15) rfl ?_
    refine o_iload X1 hx (hb hby at_15) (v := (0 : Int32)) rfl (n := 17) rfl ?_
    refine o_ifY X1 hx (hb hby at_17) (XT.i0_le_t (by decide)) (by decide) (n := 30) (by decide) ?_
    refine o_iload X1 hx (hb hby at_30) (v := (0 : Int32)) rfl (n := 32) rfl ?_
    refine o_iconst X1 hx (hb hby at_32) (v := (1 : Int32)) rfl (n := 33) rfl ?_
    refine o_icmpY X1 hx (hb hby at_33) (XT.ii_le_t (by decide)) (by decide) (n := 46) (by decide) ?_
    refine o_iload X1 hx (hb hby at_46) (v := (0 : Int32)) rfl (n := 48) rfl ?_
    refine o_iconst X1 hx (hb hby at_48) (v := (2 : Int32)) rfl (n := 49) rfl ?_
    refine o_icmpY X1 hx (hb hby at_49) (XT.ii_le_t (by decide)) (by decide) (n := 62) (by decide) ?_
    refine o_iload X1 hx (hb hby at_62) (v := (0 : Int32)) rfl (n := 64) rfl ?_
    refine o_iconst X1 hx (hb hby at_64) (v := (3 : Int32)) rfl (n := 65) rfl ?_
    refine o_icmpY X1 hx (hb hby at_65) (XT.ii_le_t (by decide)) (by decide) (n := 78) (by decide) ?_
    refine o_iload X1 hx (hb hby at_78) (v := (0 : Int32)) rfl (n := 80) rfl ?_
    refine o_iconst X1 hx (hb hby at_80) (v := (4 : Int32)) rfl (n := 81) rfl ?_
    refine o_icmpY X1 hx (hb hby at_81) (XT.ii_le_t (by decide)) (by decide) (n := 94) (by decide) ?_
    refine o_iload X1 hx (hb hby at_94) (v := (0 : Int32)) rfl (n := 96) rfl ?_
    refine o_iconst X1 hx (hb hby at_96) (v := (5 : Int32)) rfl (n := 97) rfl ?_
    refine o_icmpY X1 hx (hb hby at_97) (XT.ii_le_t (by decide)) (by decide) (n := 110) (by decide) ?_
    refine o_iload X1 hx (hb hby at_110) (v := (0 : Int32)) rfl (n := 112) rfl ?_
    refine o_bipush X1 hx (hb hby at_112) (v := (6 : Int32)) rfl (n := 114) rfl ?_
    refine o_icmpY X1 hx (hb hby at_114) (XT.ii_le_t (by decide)) (by decide) (n := 128) (by decide) ?_
    refine o_iload X1 hx (hb hby at_128) (v := (0 : Int32)) rfl (n := 130) rfl ?_
    refine o_bipush X1 hx (hb hby at_130) (v := (7 : Int32)) rfl (n := 132) rfl ?_
    refine o_icmpY X1 hx (hb hby at_132) (XT.ii_le_t (by decide)) (by decide) (n := 143) (by decide) ?_
    refine o_iload X1 hx (hb hby at_143) (v := (0 : Int32)) rfl (n := 145) rfl ?_
    refine o_bipush X1 hx (hb hby at_145) (v := (8 : Int32)) rfl (n := 147) rfl ?_
    refine o_icmpY X1 hx (hb hby at_147) (XT.ii_le_t (by decide)) (by decide) (n := 157) (by decide) ?_
    refine o_iload X1 hx (hb hby at_157) (v := (0 : Int32)) rfl (n := 159) rfl ?_
    refine o_bipush X1 hx (hb hby at_159) (v := (9 : Int32)) rfl (n := 161) rfl ?_
    refine o_icmpY X1 hx (hb hby at_161) (XT.ii_le_t (by decide)) (by decide) (n := 174) (by decide) ?_
    refine o_aload X1 hx (hb hby at_174) (v := (.ref b1)) rfl rfl (n := 176) rfl ?_
    refine o_callS X1 hx hZ hown (hw _ (List.mem_of_getElem? (i := 2) rfl)) (hw _ (List.mem_of_getElem? (i := 3) rfl)) (hw _ (List.mem_of_getElem? (i := 4) rfl)) (hw _ (List.mem_of_getElem? (i := 5) rfl)) (by decide) e1 (argsL := [(.ref b1)]) (rest := []) (c_head_0 l Z a0 hw b1 k1 h1 f2) 0 (by decide) (by decide) (by decide) (by decide) (by rw [hml]; rfl) (lenOf o_pd0 rfl) rfl (Nat.le_of_eq rfl) (hb hby at_176) (n := 179) rfl ?_
    intro v3 T3 L3 X3 q3
    obtain ⟨rfl, e3, rfl⟩ := q3
    have N4 := Fr.app N0 (Fr.nil n0)
    show Goes p e below s _ _ _ (T3.setTop (mkF m 179 #[.val (.long p0), .second, .val (.int p1), .val (.int p2), .val (.int (0 : Int32)), .val (.ref b1), .unset, .unset] [(.long (o_st (o_st (o_st (o_st (o_st (o_st (o_st (o_st (0 : Int64) (0 : Int32)) (0 : Int32)) (0 : Int32)) (0 : Int32)) (0 : Int32)) (0 : Int32)) (0 : Int32)) (0 : Int32)))]))
    refine o_lstore X3 hx (hb hby at_179) (Ls' := #[.val (.long p0), .second, .val (.int p1), .val (.int p2), .val (.int (0 : Int32)), .val (.ref b1), .val (.long (o_st (o_st (o_st (o_st (o_st (o_st (o_st (o_st (0 : Int64) (0 : Int32)) (0 : Int32)) (0 : Int32)) (0 : Int32)) (0 : Int32)) (0 : Int32)) (0 : Int32)) (0 : Int32))), .second]) rfl (n := 181) rfl ?_
    generalize h_g : (o_st (o_st (o_st (o_st (o_st (o_st (o_st (o_st (0 : Int64) (0 : Int32)) (0 : Int32)) (0 : Int32)) (0 : Int32)) (0 : Int32)) (0 : Int32)) (0 : Int32)) (0 : Int32)) = g
    refine o_lload X3 hx (hb hby at_181) (v := g) rfl (n := 183) rfl ?_
    refine o_lloadN X3 hx (hb hby at_183) (v := p0) rfl (n := 184) rfl ?_
    refine o_iload X3 hx (hb hby at_184) (v := (0 : Int32)) rfl (n := 186) rfl ?_
    refine o_callS X3 hx hZ hown (hw _ (List.mem_of_getElem? (i := 6) rfl)) (hw _ (List.mem_of_getElem? (i := 7) rfl)) (hw _ (List.mem_of_getElem? (i := 8) rfl)) (hw _ (List.mem_of_getElem? (i := 9) rfl)) (by decide) e3 (argsL := [(.long p0), (.int (0 : Int32))]) (rest := [(.long g)]) (c_exp_0 l Z a0 hw p0 h1) 2 (by decide) (by decide) (by decide) (by decide) (by rw [hml]; rfl) (lenOf o_pd1 rfl) rfl (Nat.le_of_eq rfl) (hb hby at_186) (n := 189) rfl ?_
    intro v5 T5 L5 X5 q5
    obtain ⟨rfl, e5, rfl⟩ := q5
    have N6 := Fr.app N4 (Fr.nil n0)
    show Goes p e below s _ _ _ (T5.setTop (mkF m 189 #[.val (.long p0), .second, .val (.int p1), .val (.int p2), .val (.int (0 : Int32)), .val (.ref b1), .val (.long g), .second] [(.long (0 : Int64)), (.long g)]))
    refine o_lcmp X5 hx (hb hby at_189) (n := 190) rfl ?_
    refine o_ifN X5 hx (hb hby at_190) (XT.ll_ne_f (h_g ▸ o_eq_0 p0)) (n := 193) rfl ?_
    refine o_iconst X5 hx (hb hby at_193) (v := (1 : Int32)) rfl (n := 194) rfl ?_
    refine o_goto X5 hx (hb hby at_194) (by decide) (n := 198) (by decide) ?_
    exact o_nreturn X5 hx hret hlk (t := .boolean) (by simp) (hb hby at_198) (by decide) (by decide) e5 ⟨rfl, N6⟩
  · refine o_iloadN X0 hx (hb hby at_0) (v := p2) rfl (n := 1) rfl ?_
    refine o_ldc X0 hx hZ (v := (2147483647 : Int32)) hown (hw _ (List.mem_of_getElem? (i := 0) rfl)) (hb hby at_1) (n := 3) rfl ?_
    refine o_iand X0 hx (hb hby at_3) (v := (p2 &&& (2147483647 : Int32))) rfl (n := 4) rfl ?_
    refine o_bipush X0 hx (hb hby at_4) (v := (11 : Int32)) rfl (n := 6) rfl ?_
    refine o_irem X0 hx (hb hby at_6) (by decide) (v := (1 : Int32)) q (n := 7) rfl ?_
    refine o_istore X0 hx (hb hby at_7) (Ls' := #[.val (.long p0), .second, .val (.int p1), .val (.int p2), .val (.int (1 : Int32)), .unset, .unset, .unset]) rfl (n := 9) rfl ?_
    refine o_iload X0 hx (hb hby at_9) (v := (1 : Int32)) rfl (n := 11) rfl ?_
    refine o_newarray X0 hx hZ (aty := .byte) (hw _ (List.mem_of_getElem? (i := 1) rfl)) e0 (hb hby at_11) (by decide) 1 (by decide) (by decide) (by decide) (by decide) (n := 13) rfl ?_
    intro T7 h7 b7 k7 X7 e7 g7 E7 V7
    have gg7 : n0 ≤ b7 := Nat.le_trans Z0 (Nat.le_of_eq g7.symm)
    have zz7 : n0 ≤ h7.size := Nat.le_trans Z0 E7.1
    have f8 : Arv Z h7 b7 k7 .byte (1 : Int32) [(.int (0 : Int32))] (.int (0 : Int32)) := V7.pad (pad_rep [] (.int (0 : Int32)) 1)
    refine o_astore X7 hx (hb hby at_13) rfl (Ls' := #[.val (.long p0), .second, .val (.int p1), .val (.int p2), .val (.int (1 : Int32)), .val (.ref b7), .unset, .unset]) rfl (n := 15) rfl ?_
    refine o_iload X7 hx (hb hby at_15) (v := (1 : Int32)) rfl (n := 17) rfl ?_
    refine o_ifN X7 hx (hb hby at_17) (XT.i0_le_f (by decide)) (n := 20) rfl ?_
    refine o_aload X7 hx (hb hby at_20) (v := (.ref b7)) rfl rfl (n := 22) rfl ?_
    refine o_iconst X7 hx (hb hby at_22) (v := (0 : Int32)) rfl (n := 23) rfl ?_
    refine o_lloadN X7 hx (hb hby at_23) (v := p0) rfl (n := 24) rfl ?_
    refine o_bipush X7 hx (hb hby at_24) (v := (56 : Int32)) rfl (n := 26) rfl ?_
    refine o_lushr X7 hx (hb hby at_26) (v := (p0.toUInt64 >>> (56 : UInt64)).toInt64) (congrArg (fun q : UInt64 => (p0.toUInt64 >>> q).toInt64) (show ((56 : Int32) &&& 0x3f).toInt64.toUInt64 = 56 by decide)) (n := 27) rfl ?_
    refine o_l2i X7 hx (hb hby at_27) (v := ((p0.toUInt64 >>> (56 : UInt64)).toInt64).toInt32) rfl (n := 28) rfl ?_
    refine o_i2b X7 hx (hb hby at_28) (v := (((p0.toUInt64 >>> (56 : UInt64)).toInt64).toInt32).toInt8.toInt32) rfl (n := 29) rfl ?_
    refine o_bastore X7 hx hZ e7 f8 (0) (by decide) (by decide) (Nat.le_of_ble_eq_true rfl) (w := (.int ((((p0.toUInt64 >>> (56 : UInt64)).toInt64).toInt32).toInt8.toInt32))) (congrArg Value.int (o_nar8 _)) (vs' := [(.int ((((p0.toUInt64 >>> (56 : UInt64)).toInt64).toInt32).toInt8.toInt32))]) rfl (hb hby at_29) (n := 30) rfl ?_
    intro T9 h9 X9 e9 W9 V9
    have zz9 : n0 ≤ h9.size := Nat.le_trans zz7 (Nat.le_of_eq W9.size.symm)
    have N10 := Fr.snoc X9 N0 gg7
    refine o_iload X9 hx (hb hby at_30) (v := (1 : Int32)) rfl (n := 32) rfl ?_
    refine o_iconst X9 hx (hb hby at_32) (v := (1 : Int32)) rfl (n := 33) rfl ?_
    refine o_icmpY X9 hx (hb hby at_33) (XT.ii_le_t (by decide)) (by decide) (n := 46) (by decide) ?_
    refine o_iload X9 hx (hb hby at_46) (v := (1 : Int32)) rfl (n := 48) rfl ?_
    refine o_iconst X9 hx (hb hby at_48) (v := (2 : Int32)) rfl (n := 49) rfl ?_
    refine o_icmpY X9 hx (hb hby at_49) (XT.ii_le_t (by decide)) (by decide) (n := 62) (by decide) ?_
    refine o_iload X9 hx (hb hby at_62) (v := (1 : Int32)) rfl (n := 64) rfl ?_
    refine o_iconst X9 hx (hb hby at_64) (v := (3 : Int32)) rfl (n := 65) rfl ?_
    refine o_icmpY X9 hx (hb hby at_65) (XT.ii_le_t (by decide)) (by decide) (n := 78) (by decide) ?_
    refine o_iload X9 hx (hb hby at_78) (v := (1 : Int32)) rfl (n := 80) rfl ?_
    refine o_iconst X9 hx (hb hby at_80) (v := (4 : Int32)) rfl (n := 81) rfl ?_
    refine o_icmpY X9 hx (hb hby at_81) (XT.ii_le_t (by decide)) (by decide) (n := 94) (by decide) ?_
    refine o_iload X9 hx (hb hby at_94) (v := (1 : Int32)) rfl (n := 96) rfl ?_
    refine o_iconst X9 hx (hb hby at_96) (v := (5 : Int32)) rfl (n := 97) rfl ?_
    refine o_icmpY X9 hx (hb hby at_97) (XT.ii_le_t (by decide)) (by decide) (n := 110) (by decide) ?_
    refine o_iload X9 hx (hb hby at_110) (v := (1 : Int32)) rfl (n := 112) rfl ?_
    refine o_bipush X9 hx (hb hby at_112) (v := (6 : Int32)) rfl (n := 114) rfl ?_
    refine o_icmpY X9 hx (hb hby at_114) (XT.ii_le_t (by decide)) (by decide) (n := 128) (by decide) ?_
    refine o_iload X9 hx (hb hby at_128) (v := (1 : Int32)) rfl (n := 130) rfl ?_
    refine o_bipush X9 hx (hb hby at_130) (v := (7 : Int32)) rfl (n := 132) rfl ?_
    refine o_icmpY X9 hx (hb hby at_132) (XT.ii_le_t (by decide)) (by decide) (n := 143) (by decide) ?_
    refine o_iload X9 hx (hb hby at_143) (v := (1 : Int32)) rfl (n := 145) rfl ?_
    refine o_bipush X9 hx (hb hby at_145) (v := (8 : Int32)) rfl (n := 147) rfl ?_
    refine o_icmpY X9 hx (hb hby at_147) (XT.ii_le_t (by decide)) (by decide) (n := 157) (by decide) ?_
    refine o_iload X9 hx (hb hby at_157) (v := (1 : Int32)) rfl (n := 159) rfl ?_
    refine o_bipush X9 hx (hb hby at_159) (v := (9 : Int32)) rfl (n := 161) rfl ?_
    refine o_icmpY X9 hx (hb hby at_161) (XT.ii_le_t (by decide)) (by decide) (n := 174) (by decide) ?_
    refine o_aload X9 hx (hb hby at_174) (v := (.ref b7)) rfl rfl (n := 176) rfl ?_
    refine o_callS X9 hx hZ hown (hw _ (List.mem_of_getElem? (i := 2) rfl)) (hw _ (List.mem_of_getElem? (i := 3) rfl)) (hw _ (List.mem_of_getElem? (i := 4) rfl)) (hw _ (List.mem_of_getElem? (i := 5) rfl)) (by decide) e9 (argsL := [(.ref b7)]) (rest := []) (c_head_1 l Z a0 hw b7 k7 ((((p0.toUInt64 >>> (56 : UInt64)).toInt64).toInt32).toInt8.toInt32) h9 V9) 0 (by decide) (by decide) (by decide) (by decide) (by rw [hml]; rfl) (lenOf o_pd0 rfl) rfl (Nat.le_of_eq rfl) (hb hby at_176) (n := 179) rfl ?_
    intro v11 T11 L11 X11 q11
    obtain ⟨rfl, e11, rfl⟩ := q11
    have N12 := Fr.app N10 (Fr.nil n0)
    show Goes p e below s _ _ _ (T11.setTop (mkF m 179 #[.val (.long p0), .second, .val (.int p1), .val (.int p2), .val (.int (1 : Int32)), .val (.ref b7), .unset, .unset] [(.long (o_st (o_st (o_st (o_st (o_st (o_st (o_st (o_st (0 : Int64) (((((p0.toUInt64 >>> (56 : UInt64)).toInt64).toInt32).toInt8.toInt32) &&& (255 : Int32))) (0 : Int32)) (0 : Int32)) (0 : Int32)) (0 : Int32)) (0 : Int32)) (0 : Int32)) (0 : Int32)))]))
    refine o_lstore X11 hx (hb hby at_179) (Ls' := #[.val (.long p0), .second, .val (.int p1), .val (.int p2), .val (.int (1 : Int32)), .val (.ref b7), .val (.long (o_st (o_st (o_st (o_st (o_st (o_st (o_st (o_st (0 : Int64) (((((p0.toUInt64 >>> (56 : UInt64)).toInt64).toInt32).toInt8.toInt32) &&& (255 : Int32))) (0 : Int32)) (0 : Int32)) (0 : Int32)) (0 : Int32)) (0 : Int32)) (0 : Int32)) (0 : Int32))), .second]) rfl (n := 181) rfl ?_
    generalize h_g : (o_st (o_st (o_st (o_st (o_st (o_st (o_st (o_st (0 : Int64) (((((p0.toUInt64 >>> (56 : UInt64)).toInt64).toInt32).toInt8.toInt32) &&& (255 : Int32))) (0 : Int32)) (0 : Int32)) (0 : Int32)) (0 : Int32)) (0 : Int32)) (0 : Int32)) (0 : Int32)) = g
    refine o_lload X11 hx (hb hby at_181) (v := g) rfl (n := 183) rfl ?_
    refine o_lloadN X11 hx (hb hby at_183) (v := p0) rfl (n := 184) rfl ?_
    refine o_iload X11 hx (hb hby at_184) (v := (1 : Int32)) rfl (n := 186) rfl ?_
    refine o_callS X11 hx hZ hown (hw _ (List.mem_of_getElem? (i := 6) rfl)) (hw _ (List.mem_of_getElem? (i := 7) rfl)) (hw _ (List.mem_of_getElem? (i := 8) rfl)) (hw _ (List.mem_of_getElem? (i := 9) rfl)) (by decide) e11 (argsL := [(.long p0), (.int (1 : Int32))]) (rest := [(.long g)]) (c_exp_1 l Z a0 hw p0 h9) 2 (by decide) (by decide) (by decide) (by decide) (by rw [hml]; rfl) (lenOf o_pd1 rfl) rfl (Nat.le_of_eq rfl) (hb hby at_186) (n := 189) rfl ?_
    intro v13 T13 L13 X13 q13
    obtain ⟨rfl, e13, rfl⟩ := q13
    have N14 := Fr.app N12 (Fr.nil n0)
    show Goes p e below s _ _ _ (T13.setTop (mkF m 189 #[.val (.long p0), .second, .val (.int p1), .val (.int p2), .val (.int (1 : Int32)), .val (.ref b7), .val (.long g), .second] [(.long (p0 &&& (-72057594037927936 : Int64))), (.long g)]))
    refine o_lcmp X13 hx (hb hby at_189) (n := 190) rfl ?_
    refine o_ifN X13 hx (hb hby at_190) (XT.ll_ne_f (h_g ▸ o_eq_1 p0)) (n := 193) rfl ?_
    refine o_iconst X13 hx (hb hby at_193) (v := (1 : Int32)) rfl (n := 194) rfl ?_
    refine o_goto X13 hx (hb hby at_194) (by decide) (n := 198) (by decide) ?_
    exact o_nreturn X13 hx hret hlk (t := .boolean) (by simp) (hb hby at_198) (by decide) (by decide) e13 ⟨rfl, N14⟩
  · refine o_iloadN X0 hx (hb hby at_0) (v := p2) rfl (n := 1) rfl ?_
    refine o_ldc X0 hx hZ (v := (2147483647 : Int32)) hown (hw _ (List.mem_of_getElem? (i := 0) rfl)) (hb hby at_1) (n := 3) rfl ?_
    refine o_iand X0 hx (hb hby at_3) (v := (p2 &&& (2147483647 : Int32))) rfl (n := 4) rfl ?_
    refine o_bipush X0 hx (hb hby at_4) (v := (11 : Int32)) rfl (n := 6) rfl ?_
    refine o_irem X0 hx (hb hby at_6) (by decide) (v := (2 : Int32)) q (n := 7) rfl ?_
    refine o_istore X0 hx (hb hby at_7) (Ls' := #[.val (.long p0), .second, .val (.int p1), .val (.int p2), .val (.int (2 : Int32)), .unset, .unset, .unset]) rfl (n := 9) rfl ?_
    refine o_iload X0 hx (hb hby at_9) (v := (2 : Int32)) rfl (n := 11) rfl ?_
    refine o_newarray X0 hx hZ (aty := .byte) (hw _ (List.mem_of_getElem? (i := 1) rfl)) e0 (hb hby at_11) (by decide) 2 (by decide) (by decide) (by decide) (by decide) (n := 13) rfl ?_
    intro T15 h15 b15 k15 X15 e15 g15 E15 V15
    have gg15 : n0 ≤ b15 := Nat.le_trans Z0 (Nat.le_of_eq g15.symm)
    have zz15 : n0 ≤ h15.size := Nat.le_trans Z0 E15.1
    have f16 : Arv Z h15 b15 k15 .byte (2 : Int32) [(.int (0 : Int32)), (.int (0 : Int32))] (.int (0 : Int32)) := V15.pad (pad_rep [] (.int (0 : Int32)) 2)
    refine o_astore X15 hx (hb hby at_13) rfl (Ls' := #[.val (.long p0), .second, .val (.int p1), .val (.int p2), .val (.int (2 : Int32)), .val (.ref b15), .unset, .unset]) rfl (n := 15) rfl ?_
    refine o_iload X15 hx (hb hby at_15) (v := (2 : Int32)) rfl (n := 17) rfl ?_
    refine o_ifN X15 hx (hb hby at_17) (XT.i0_le_f (by decide)) (n := 20) rfl ?_
    refine o_aload X15 hx (hb hby at_20) (v := (.ref b15)) rfl rfl (n := 22) rfl ?_
    refine o_iconst X15 hx (hb hby at_22) (v := (0 : Int32)) rfl (n := 23) rfl ?_
    refine o_lloadN X15 hx (hb hby at_23) (v := p0) rfl (n := 24) rfl ?_
    refine o_bipush X15 hx (hb hby at_24) (v := (56 : Int32)) rfl (n := 26) rfl ?_
    refine o_lushr X15 hx (hb hby at_26) (v := (p0.toUInt64 >>> (56 : UInt64)).toInt64) (congrArg (fun q : UInt64 => (p0.toUInt64 >>> q).toInt64) (show ((56 : Int32) &&& 0x3f).toInt64.toUInt64 = 56 by decide)) (n := 27) rfl ?_
    refine o_l2i X15 hx (hb hby at_27) (v := ((p0.toUInt64 >>> (56 : UInt64)).toInt64).toInt32) rfl (n := 28) rfl ?_
    refine o_i2b X15 hx (hb hby at_28) (v := (((p0.toUInt64 >>> (56 : UInt64)).toInt64).toInt32).toInt8.toInt32) rfl (n := 29) rfl ?_
    refine o_bastore X15 hx hZ e15 f16 (0) (by decide) (by decide) (Nat.le_of_ble_eq_true rfl) (w := (.int ((((p0.toUInt64 >>> (56 : UInt64)).toInt64).toInt32).toInt8.toInt32))) (congrArg Value.int (o_nar8 _)) (vs' := [(.int ((((p0.toUInt64 >>> (56 : UInt64)).toInt64).toInt32).toInt8.toInt32)), (.int (0 : Int32))]) rfl (hb hby at_29) (n := 30) rfl ?_
    intro T17 h17 X17 e17 W17 V17
    have zz17 : n0 ≤ h17.size := Nat.le_trans zz15 (Nat.le_of_eq W17.size.symm)
    have N18 := Fr.snoc X17 N0 gg15
    refine o_iload X17 hx (hb hby at_30) (v := (2 : Int32)) rfl (n := 32) rfl ?_
    refine o_iconst X17 hx (hb hby at_32) (v := (1 : Int32)) rfl (n := 33) rfl ?_
    refine o_icmpN X17 hx (hb hby at_33) (XT.ii_le_f (by decide)) (n := 36) rfl ?_
    refine o_aload X17 hx (hb hby at_36) (v := (.ref b15)) rfl rfl (n := 38) rfl ?_
    refine o_iconst X17 hx (hb hby at_38) (v := (1 : Int32)) rfl (n := 39) rfl ?_
    refine o_lloadN X17 hx (hb hby at_39) (v := p0) rfl (n := 40) rfl ?_
    refine o_bipush X17 hx (hb hby at_40) (v := (48 : Int32)) rfl (n := 42) rfl ?_
    refine o_lushr X17 hx (hb hby at_42) (v := (p0.toUInt64 >>> (48 : UInt64)).toInt64) (congrArg (fun q : UInt64 => (p0.toUInt64 >>> q).toInt64) (show ((48 : Int32) &&& 0x3f).toInt64.toUInt64 = 48 by decide)) (n := 43) rfl ?_
    refine o_l2i X17 hx (hb hby at_43) (v := ((p0.toUInt64 >>> (48 : UInt64)).toInt64).toInt32) rfl (n := 44) rfl ?_
    refine o_i2b X17 hx (hb hby at_44) (v := (((p0.toUInt64 >>> (48 : UInt64)).toInt64).toInt32).toInt8.toInt32) rfl (n := 45) rfl ?_
    refine o_bastore X17 hx hZ e17 V17 (1) (by decide) (by decide) (Nat.le_of_ble_eq_true rfl) (w := (.int ((((p0.toUInt64 >>> (48 : UInt64)).toInt64).toInt32).toInt8.toInt32))) (congrArg Value.int (o_nar8 _)) (vs' := [(.int ((((p0.toUInt64 >>> (56 : UInt64)).toInt64).toInt32).toInt8.toInt32)), (.int ((((p0.toUInt64 >>> (48 : UInt64)).toInt64).toInt32).toInt8.toInt32))]) rfl (hb hby at_45) (n := 46) rfl ?_
    intro T19 h19 X19 e19 W19 V19
    have zz19 : n0 ≤ h19.size := Nat.le_trans zz17 (Nat.le_of_eq W19.size.symm)
    have N20 := Fr.snoc X19 N18 gg15
    refine o_iload X19 hx (hb hby at_46) (v := (2 : Int32)) rfl (n := 48) rfl ?_
    refine o_iconst X19 hx (hb hby at_48) (v := (2 : Int32)) rfl (n := 49) rfl ?_
    refine o_icmpY X19 hx (hb hby at_49) (XT.ii_le_t (by decide)) (by decide) (n := 62) (by decide) ?_
    refine o_iload X19 hx (hb hby at_62) (v := (2 : Int32)) rfl (n := 64) rfl ?_
    refine o_iconst X19 hx (hb hby at_64) (v := (3 : Int32)) rfl (n := 65) rfl ?_
    refine o_icmpY X19 hx (hb hby at_65) (XT.ii_le_t (by decide)) (by decide) (n := 78) (by decide) ?_
    refine o_iload X19 hx (hb hby at_78) (v := (2 : Int32)) rfl (n := 80) rfl ?_
    refine o_iconst X19 hx (hb hby at_80) (v := (4 : Int32)) rfl (n := 81) rfl ?_
    refine o_icmpY X19 hx (hb hby at_81) (XT.ii_le_t (by decide)) (by decide) (n := 94) (by decide) ?_
    refine o_iload X19 hx (hb hby at_94) (v := (2 : Int32)) rfl (n := 96) rfl ?_
    refine o_iconst X19 hx (hb hby at_96) (v := (5 : Int32)) rfl (n := 97) rfl ?_
    refine o_icmpY X19 hx (hb hby at_97) (XT.ii_le_t (by decide)) (by decide) (n := 110) (by decide) ?_
    refine o_iload X19 hx (hb hby at_110) (v := (2 : Int32)) rfl (n := 112) rfl ?_
    refine o_bipush X19 hx (hb hby at_112) (v := (6 : Int32)) rfl (n := 114) rfl ?_
    refine o_icmpY X19 hx (hb hby at_114) (XT.ii_le_t (by decide)) (by decide) (n := 128) (by decide) ?_
    refine o_iload X19 hx (hb hby at_128) (v := (2 : Int32)) rfl (n := 130) rfl ?_
    refine o_bipush X19 hx (hb hby at_130) (v := (7 : Int32)) rfl (n := 132) rfl ?_
    refine o_icmpY X19 hx (hb hby at_132) (XT.ii_le_t (by decide)) (by decide) (n := 143) (by decide) ?_
    refine o_iload X19 hx (hb hby at_143) (v := (2 : Int32)) rfl (n := 145) rfl ?_
    refine o_bipush X19 hx (hb hby at_145) (v := (8 : Int32)) rfl (n := 147) rfl ?_
    refine o_icmpY X19 hx (hb hby at_147) (XT.ii_le_t (by decide)) (by decide) (n := 157) (by decide) ?_
    refine o_iload X19 hx (hb hby at_157) (v := (2 : Int32)) rfl (n := 159) rfl ?_
    refine o_bipush X19 hx (hb hby at_159) (v := (9 : Int32)) rfl (n := 161) rfl ?_
    refine o_icmpY X19 hx (hb hby at_161) (XT.ii_le_t (by decide)) (by decide) (n := 174) (by decide) ?_
    refine o_aload X19 hx (hb hby at_174) (v := (.ref b15)) rfl rfl (n := 176) rfl ?_
    refine o_callS X19 hx hZ hown (hw _ (List.mem_of_getElem? (i := 2) rfl)) (hw _ (List.mem_of_getElem? (i := 3) rfl)) (hw _ (List.mem_of_getElem? (i := 4) rfl)) (hw _ (List.mem_of_getElem? (i := 5) rfl)) (by decide) e19 (argsL := [(.ref b15)]) (rest := []) (c_head_2 l Z a0 hw b15 k15 ((((p0.toUInt64 >>> (56 : UInt64)).toInt64).toInt32).toInt8.toInt32) ((((p0.toUInt64 >>> (48 : UInt64)).toInt64).toInt32).toInt8.toInt32) h19 V19) 0 (by decide) (by decide) (by decide) (by decide) (by rw [hml]; rfl) (lenOf o_pd0 rfl) rfl (Nat.le_of_eq rfl) (hb hby at_176) (n := 179) rfl ?_
    intro v21 T21 L21 X21 q21
    obtain ⟨rfl, e21, rfl⟩ := q21
    have N22 := Fr.app N20 (Fr.nil n0)
    show Goes p e below s _ _ _ (T21.setTop (mkF m 179 #[.val (.long p0), .second, .val (.int p1), .val (.int p2), .val (.int (2 : Int32)), .val (.ref b15), .unset, .unset] [(.long (o_st (o_st (o_st (o_st (o_st (o_st (o_st (o_st (0 : Int64) (((((p0.toUInt64 >>> (56 : UInt64)).toInt64).toInt32).toInt8.toInt32) &&& (255 : Int32))) (((((p0.toUInt64 >>> (48 : UInt64)).toInt64).toInt32).toInt8.toInt32) &&& (255 : Int32))) (0 : Int32)) (0 : Int32)) (0 : Int32)) (0 : Int32)) (0 : Int32)) (0 : Int32)))]))
    refine o_lstore X21 hx (hb hby at_179) (Ls' := #[.val (.long p0), .second, .val (.int p1), .val (.int p2), .val (.int (2 : Int32)), .val (.ref b15), .val (.long (o_st (o_st (o_st (o_st (o_st (o_st (o_st (o_st (0 : Int64) (((((p0.toUInt64 >>> (56 : UInt64)).toInt64).toInt32).toInt8.toInt32) &&& (255 : Int32))) (((((p0.toUInt64 >>> (48 : UInt64)).toInt64).toInt32).toInt8.toInt32) &&& (255 : Int32))) (0 : Int32)) (0 : Int32)) (0 : Int32)) (0 : Int32)) (0 : Int32)) (0 : Int32))), .second]) rfl (n := 181) rfl ?_
    generalize h_g : (o_st (o_st (o_st (o_st (o_st (o_st (o_st (o_st (0 : Int64) (((((p0.toUInt64 >>> (56 : UInt64)).toInt64).toInt32).toInt8.toInt32) &&& (255 : Int32))) (((((p0.toUInt64 >>> (48 : UInt64)).toInt64).toInt32).toInt8.toInt32) &&& (255 : Int32))) (0 : Int32)) (0 : Int32)) (0 : Int32)) (0 : Int32)) (0 : Int32)) (0 : Int32)) = g
    refine o_lload X21 hx (hb hby at_181) (v := g) rfl (n := 183) rfl ?_
    refine o_lloadN X21 hx (hb hby at_183) (v := p0) rfl (n := 184) rfl ?_
    refine o_iload X21 hx (hb hby at_184) (v := (2 : Int32)) rfl (n := 186) rfl ?_
    refine o_callS X21 hx hZ hown (hw _ (List.mem_of_getElem? (i := 6) rfl)) (hw _ (List.mem_of_getElem? (i := 7) rfl)) (hw _ (List.mem_of_getElem? (i := 8) rfl)) (hw _ (List.mem_of_getElem? (i := 9) rfl)) (by decide) e21 (argsL := [(.long p0), (.int (2 : Int32))]) (rest := [(.long g)]) (c_exp_2 l Z a0 hw p0 h19) 2 (by decide) (by decide) (by decide) (by decide) (by rw [hml]; rfl) (lenOf o_pd1 rfl) rfl (Nat.le_of_eq rfl) (hb hby at_186) (n := 189) rfl ?_
    intro v23 T23 L23 X23 q23
    obtain ⟨rfl, e23, rfl⟩ := q23
    have N24 := Fr.app N22 (Fr.nil n0)
    show Goes p e below s _ _ _ (T23.setTop (mkF m 189 #[.val (.long p0), .second, .val (.int p1), .val (.int p2), .val (.int (2 : Int32)), .val (.ref b15), .val (.long g), .second] [(.long (p0 &&& (-281474976710656 : Int64))), (.long g)]))
    refine o_lcmp X23 hx (hb hby at_189) (n := 190) rfl ?_
    refine o_ifN X23 hx (hb hby at_190) (XT.ll_ne_f (h_g ▸ o_eq_2 p0)) (n := 193) rfl ?_
    refine o_iconst X23 hx (hb hby at_193) (v := (1 : Int32)) rfl (n := 194) rfl ?_
    refine o_goto X23 hx (hb hby at_194) (by decide) (n := 198) (by decide) ?_
    exact o_nreturn X23 hx hret hlk (t := .boolean) (by simp) (hb hby at_198) (by decide) (by decide) e23 ⟨rfl, N24⟩
  · refine o_iloadN X0 hx (hb hby at_0) (v := p2) rfl (n := 1) rfl ?_
    refine o_ldc X0 hx hZ (v := (2147483647 : Int32)) hown (hw _ (List.mem_of_getElem? (i := 0) rfl)) (hb hby at_1) (n := 3) rfl ?_
    refine o_iand X0 hx (hb hby at_3) (v := (p2 &&& (2147483647 : Int32))) rfl (n := 4) rfl ?_
    refine o_bipush X0 hx (hb hby at_4) (v := (11 : Int32)) rfl (n := 6) rfl ?_
    refine o_irem X0 hx (hb hby at_6) (by decide) (v := (3 : Int32)) q (n := 7) rfl ?_
    refine o_istore X0 hx (hb hby at_7) (Ls' := #[.val (.long p0), .second, .val (.int p1), .val (.int p2), .val (.int (3 : Int32)), .unset, .unset, .unset]) rfl (n := 9) rfl ?_
    refine o_iload X0 hx (hb hby at_9) (v := (3 : Int32)) rfl (n := 11) rfl ?_
    refine o_newarray X0 hx hZ (aty := .byte) (hw _ (List.mem_of_getElem? (i := 1) rfl)) e0 (hb hby at_11) (by decide) 3 (by decide) (by decide) (by decide) (by decide) (n := 13) rfl ?_
    intro T25 h25 b25 k25 X25 e25 g25 E25 V25
    have gg25 : n0 ≤ b25 := Nat.le_trans Z0 (Nat.le_of_eq g25.symm)
    have zz25 : n0 ≤ h25.size := Nat.le_trans Z0 E25.1
    have f26 : Arv Z h25 b25 k25 .byte (3 : Int32) [(.int (0 : Int32)), (.int (0 : Int32)), (.int (0 : Int32))] (.int (0 : Int32)) := V25.pad (pad_rep [] (.int (0 : Int32)) 3)
    refine o_astore X25 hx (hb hby at_13) rfl (Ls' := #[.val (.long p0), .second, .val (.int p1), .val (.int p2), .val (.int (3 : Int32)), .val (.ref b25), .unset, .unset]) rfl (n := 15) rfl ?_
    refine o_iload X25 hx (hb hby at_15) (v := (3 : Int32)) rfl (n := 17) rfl ?_
    refine o_ifN X25 hx (hb hby at_17) (XT.i0_le_f (by decide)) (n := 20) rfl ?_
    refine o_aload X25 hx (hb hby at_20) (v := (.ref b25)) rfl rfl (n := 22) rfl ?_
    refine o_iconst X25 hx (hb hby at_22) (v := (0 : Int32)) rfl (n := 23) rfl ?_
    refine o_lloadN X25 hx (hb hby at_23) (v := p0) rfl (n := 24) rfl ?_
    refine o_bipush X25 hx (hb hby at_24) (v := (56 : Int32)) rfl (n := 26) rfl ?_
    refine o_lushr X25 hx (hb hby at_26) (v := (p0.toUInt64 >>> (56 : UInt64)).toInt64) (congrArg (fun q : UInt64 => (p0.toUInt64 >>> q).toInt64) (show ((56 : Int32) &&& 0x3f).toInt64.toUInt64 = 56 by decide)) (n := 27) rfl ?_
    refine o_l2i X25 hx (hb hby at_27) (v := ((p0.toUInt64 >>> (56 : UInt64)).toInt64).toInt32) rfl (n := 28) rfl ?_
    refine o_i2b X25 hx (hb hby at_28) (v := (((p0.toUInt64 >>> (56 : UInt64)).toInt64).toInt32).toInt8.toInt32) rfl (n := 29) rfl ?_
    refine o_bastore X25 hx hZ e25 f26 (0) (by decide) (by decide) (Nat.le_of_ble_eq_true rfl) (w := (.int ((((p0.toUInt64 >>> (56 : UInt64)).toInt64).toInt32).toInt8.toInt32))) (congrArg Value.int (o_nar8 _)) (vs' := [(.int ((((p0.toUInt64 >>> (56 : UInt64)).toInt64).toInt32).toInt8.toInt32)), (.int (0 : Int32)), (.int (0 : Int32))]) rfl (hb hby at_29) (n := 30) rfl ?_
    intro T27 h27 X27 e27 W27 V27
    have zz27 : n0 ≤ h27.size := Nat.le_trans zz25 (Nat.le_of_eq W27.size.symm)
    have N28 := Fr.snoc X27 N0 gg25
    refine o_iload X27 hx (hb hby at_30) (v := (3 : Int32)) rfl (n := 32) rfl ?_
    refine o_iconst X27 hx (hb hby at_32) (v := (1 : Int32)) rfl (n := 33) rfl ?_
    refine o_icmpN X27 hx (hb hby at_33) (XT.ii_le_f (by decide)) (n := 36) rfl ?_
    refine o_aload X27 hx (hb hby at_36) (v := (.ref b25)) rfl rfl (n := 38) rfl ?_
    refine o_iconst X27 hx (hb hby at_38) (v := (1 : Int32)) rfl (n := 39) rfl ?_
    refine o_lloadN X27 hx (hb hby at_39) (v := p0) rfl (n := 40) rfl ?_
    refine o_bipush X27 hx (hb hby at_40) (v := (48 : Int32)) rfl (n := 42) rfl ?_
    refine o_lushr X27 hx (hb hby at_42) (v := (p0.toUInt64 >>> (48 : UInt64)).toInt64) (congrArg (fun q : UInt64 => (p0.toUInt64 >>> q).toInt64) (show ((48 : Int32) &&& 0x3f).toInt64.toUInt64 = 48 by decide)) (n := 43) rfl ?_
    refine o_l2i X27 hx (hb hby at_43) (v := ((p0.toUInt64 >>> (48 : UInt64)).toInt64).toInt32) rfl (n := 44) rfl ?_
    refine o_i2b X27 hx (hb hby at_44) (v := (((p0.toUInt64 >>> (48 : UInt64)).toInt64).toInt32).toInt8.toInt32) rfl (n := 45) rfl ?_
    refine o_bastore X27 hx hZ e27 V27 (1) (by decide) (by decide) (Nat.le_of_ble_eq_true rfl) (w := (.int ((((p0.toUInt64 >>> (48 : UInt64)).toInt64).toInt32).toInt8.toInt32))) (congrArg Value.int (o_nar8 _)) (vs' := [(.int ((((p0.toUInt64 >>> (56 : UInt64)).toInt64).toInt32).toInt8.toInt32)), (.int ((((p0.toUInt64 >>> (48 : UInt64)).toInt64).toInt32).toInt8.toInt32)), (.int (0 : Int32))]) rfl (hb hby at_45) (n := 46) rfl ?_
    intro T29 h29 X29 e29 W29 V29
    have zz29 : n0 ≤ h29.size := Nat.le_trans zz27 (Nat.le_of_eq W29.size.symm)
    have N30 := Fr.snoc X29 N28 gg25
    refine o_iload X29 hx (hb hby at_46) (v := (3 : Int32)) rfl (n := 48) rfl ?_
    refine o_iconst X29 hx (hb hby at_48) (v := (2 : Int32)) rfl (n := 49) rfl ?_
    refine o_icmpN X29 hx (hb hby at_49) (XT.ii_le_f (by decide)) (n := 52) rfl ?_
    refine o_aload X29 hx (hb hby at_52) (v := (.ref b25)) rfl rfl (n := 54) rfl ?_
    refine o_iconst X29 hx (hb hby at_54) (v := (2 : Int32)) rfl (n := 55) rfl ?_
    refine o_lloadN X29 hx (hb hby at_55) (v := p0) rfl (n := 56) rfl ?_
    refine o_bipush X29 hx (hb hby at_56) (v := (40 : Int32)) rfl (n := 58) rfl ?_
    refine o_lushr X29 hx (hb hby at_58) (v := (p0.toUInt64 >>> (40 : UInt64)).toInt64) (congrArg (fun q : UInt64 => (p0.toUInt64 >>> q).toInt64) (show ((40 : Int32) &&& 0x3f).toInt64.toUInt64 = 40 by decide)) (n := 59) rfl ?_
    refine o_l2i X29 hx (hb hby at_59) (v := ((p0.toUInt64 >>> (40 : UInt64)).toInt64).toInt32) rfl (n := 60) rfl ?_
    refine o_i2b X29 hx (hb hby at_60) (v := (((p0.toUInt64 >>> (40 : UInt64)).toInt64).toInt32).toInt8.toInt32) rfl (n := 61) rfl ?_
    refine o_bastore X29 hx hZ e29 V29 (2) (by decide) (by decide) (Nat.le_of_ble_eq_true rfl) (w := (.int ((((p0.toUInt64 >>> (40 : UInt64)).toInt64).toInt32).toInt8.toInt32))) (congrArg Value.int (o_nar8 _)) (vs' := [(.int ((((p0.toUInt64 >>> (56 : UInt64)).toInt64).toInt32).toInt8.toInt32)), (.int ((((p0.toUInt64 >>> (48 : UInt64)).toInt64).toInt32).toInt8.toInt32)), (.int ((((p0.toUInt64 >>> (40 : UInt64)).toInt64).toInt32).toInt8.toInt32))]) rfl (hb hby at_61) (n := 62) rfl ?_
    intro T31 h31 X31 e31 W31 V31
    have zz31 : n0 ≤ h31.size := Nat.le_trans zz29 (Nat.le_of_eq W31.size.symm)
    have N32 := Fr.snoc X31 N30 gg25
    refine o_iload X31 hx (hb hby at_62) (v := (3 : Int32)) rfl (n := 64) rfl ?_
    refine o_iconst X31 hx (hb hby at_64) (v := (3 : Int32)) rfl (n := 65) rfl ?_
    refine o_icmpY X31 hx (hb hby at_65) (XT.ii_le_t (by decide)) (by decide) (n := 78) (by decide) ?_
    refine o_iload X31 hx (hb hby at_78) (v := (3 : Int32)) rfl (n := 80) rfl ?_
    refine o_iconst X31 hx (hb hby at_80) (v := (4 : Int32)) rfl (n := 81) rfl ?_
    refine o_icmpY X31 hx (hb hby at_81) (XT.ii_le_t (by decide)) (by decide) (n := 94) (by decide) ?_
    refine o_iload X31 hx (hb hby at_94) (v := (3 : Int32)) rfl (n := 96) rfl ?_
    refine o_iconst X31 hx (hb hby at_96) (v := (5 : Int32)) rfl (n := 97) rfl ?_
    refine o_icmpY X31 hx (hb hby at_97) (XT.ii_le_t (by decide)) (by decide) (n := 110) (by decide) ?_
    refine o_iload X31 hx (hb hby at_110) (v := (3 : Int32)) rfl (n := 112) rfl ?_
    refine o_bipush X31 hx (hb hby at_112) (v := (6 : Int32)) rfl (n := 114) rfl ?_
    refine o_icmpY X31 hx (hb hby at_114) (XT.ii_le_t (by decide)) (by decide) (n := 128) (by decide) ?_
    refine o_iload X31 hx (hb hby at_128) (v := (3 : Int32)) rfl (n := 130) rfl ?_
    refine o_bipush X31 hx (hb hby at_130) (v := (7 : Int32)) rfl (n := 132) rfl ?_
    refine o_icmpY X31 hx (hb hby at_132) (XT.ii_le_t (by decide)) (by decide) (n := 143) (by decide) ?_
    refine o_iload X31 hx (hb hby at_143) (v := (3 : Int32)) rfl (n := 145) rfl ?_
    refine o_bipush X31 hx (hb hby at_145) (v := (8 : Int32)) rfl (n := 147) rfl ?_
    refine o_icmpY X31 hx (hb hby at_147) (XT.ii_le_t (by decide)) (by decide) (n := 157) (by decide) ?_
    refine o_iload X31 hx (hb hby at_157) (v := (3 : Int32)) rfl (n := 159) rfl ?_
    refine o_bipush X31 hx (hb hby at_159) (v := (9 : Int32)) rfl (n := 161) rfl ?_
    refine o_icmpY X31 hx (hb hby at_161) (XT.ii_le_t (by decide)) (by decide) (n := 174) (by decide) ?_
    refine o_aload X31 hx (hb hby at_174) (v := (.ref b25)) rfl rfl (n := 176) rfl ?_
    refine o_callS X31 hx hZ hown (hw _ (List.mem_of_getElem? (i := 2) rfl)) (hw _ (List.mem_of_getElem? (i := 3) rfl)) (hw _ (List.mem_of_getElem? (i := 4) rfl)) (hw _ (List.mem_of_getElem? (i := 5) rfl)) (by decide) e31 (argsL := [(.ref b25)]) (rest := []) (c_head_3 l Z a0 hw b25 k25 ((((p0.toUInt64 >>> (56 : UInt64)).toInt64).toInt32).toInt8.toInt32) ((((p0.toUInt64 >>> (48 : UInt64)).toInt64).toInt32).toInt8.toInt32) ((((p0.toUInt64 >>> (40 : UInt64)).toInt64).toInt32).toInt8.toInt32) h31 V31) 0 (by decide) (by decide) (by decide) (by decide) (by rw [hml]; rfl) (lenOf o_pd0 rfl) rfl (Nat.le_of_eq rfl) (hb hby at_176) (n := 179) rfl ?_
    intro v33 T33 L33 X33 q33
    obtain ⟨rfl, e33, rfl⟩ := q33
    have N34 := Fr.app N32 (Fr.nil n0)
    show Goes p e below s _ _ _ (T33.setTop (mkF m 179 #[.val (.long p0), .second, .val (.int p1), .val (.int p2), .val (.int (3 : Int32)), .val (.ref b25), .unset, .unset] [(.long (o_st (o_st (o_st (o_st (o_st (o_st (o_st (o_st (0 : Int64) (((((p0.toUInt64 >>> (56 : UInt64)).toInt64).toInt32).toInt8.toInt32) &&& (255 : Int32))) (((((p0.toUInt64 >>> (48 : UInt64)).toInt64).toInt32).toInt8.toInt32) &&& (255 : Int32))) (((((p0.toUInt64 >>> (40 : UInt64)).toInt64).toInt32).toInt8.toInt32) &&& (255 : Int32))) (0 : Int32)) (0 : Int32)) (0 : Int32)) (0 : Int32)) (0 : Int32)))]))
    refine o_lstore X33 hx (hb hby at_179) (Ls' := #[.val (.long p0), .second, .val (.int p1), .val (.int p2), .val (.int (3 : Int32)), .val (.ref b25), .val (.long (o_st (o_st (o_st (o_st (o_st (o_st (o_st (o_st (0 : Int64) (((((p0.toUInt64 >>> (56 : UInt64)).toInt64).toInt32).toInt8.toInt32) &&& (255 : Int32))) (((((p0.toUInt64 >>> (48 : UInt64)).toInt64).toInt32).toInt8.toInt32) &&& (255 : Int32))) (((((p0.toUInt64 >>> (40 : UInt64)).toInt64).toInt32).toInt8.toInt32) &&& (255 : Int32))) (0 : Int32)) (0 : Int32)) (0 : Int32)) (0 : Int32)) (0 : Int32))), .second]) rfl (n := 181) rfl ?_
    generalize h_g : (o_st (o_st (o_st (o_st (o_st (o_st (o_st (o_st (0 : Int64) (((((p0.toUInt64 >>> (56 : UInt64)).toInt64).toInt32).toInt8.toInt32) &&& (255 : Int32))) (((((p0.toUInt64 >>> (48 : UInt64)).toInt64).toInt32).toInt8.toInt32) &&& (255 : Int32))) (((((p0.toUInt64 >>> (40 : UInt64)).toInt64).toInt32).toInt8.toInt32) &&& (255 : Int32))) (0 : Int32)) (0 : Int32)) (0 : Int32)) (0 : Int32)) (0 : Int32)) = g
    refine o_lload X33 hx (hb hby at_181) (v := g) rfl (n := 183) rfl ?_
    refine o_lloadN X33 hx (hb hby at_183) (v := p0) rfl (n := 184) rfl ?_
    refine o_iload X33 hx (hb hby at_184) (v := (3 : Int32)) rfl (n := 186) rfl ?_
    refine o_callS X33 hx hZ hown (hw _ (List.mem_of_getElem? (i := 6) rfl)) (hw _ (List.mem_of_getElem? (i := 7) rfl)) (hw _ (List.mem_of_getElem? (i := 8) rfl)) (hw _ (List.mem_of_getElem? (i := 9) rfl)) (by decide) e33 (argsL := [(.long p0), (.int (3 : Int32))]) (rest := [(.long g)]) (c_exp_3 l Z a0 hw p0 h31) 2 (by decide) (by decide) (by decide) (by decide) (by rw [hml]; rfl) (lenOf o_pd1 rfl) rfl (Nat.le_of_eq rfl) (hb hby at_186) (n := 189) rfl ?_
    intro v35 T35 L35 X35 q35
    obtain ⟨rfl, e35, rfl⟩ := q35
    have N36 := Fr.app N34 (Fr.nil n0)
    show Goes p e below s _ _ _ (T35.setTop (mkF m 189 #[.val (.long p0), .second, .val (.int p1), .val (.int p2), .val (.int (3 : Int32)), .val (.ref b25), .val (.long g), .second] [(.long (p0 &&& (-1099511627776 : Int64))), (.long g)]))
    refine o_lcmp X35 hx (hb hby at_189) (n := 190) rfl ?_
    refine o_ifN X35 hx (hb hby at_190) (XT.ll_ne_f (h_g ▸ o_eq_3 p0)) (n := 193) rfl ?_
    refine o_iconst X35 hx (hb hby at_193) (v := (1 : Int32)) rfl (n := 194) rfl ?_
    refine o_goto X35 hx (hb hby at_194) (by decide) (n := 198) (by decide) ?_
    exact o_nreturn X35 hx hret hlk (t := .boolean) (by simp) (hb hby at_198) (by decide) (by decide) e35 ⟨rfl, N36⟩
  · refine o_iloadN X0 hx (hb hby at_0) (v := p2) rfl (n := 1) rfl ?_
    refine o_ldc X0 hx hZ (v := (2147483647 : Int32)) hown (hw _ (List.mem_of_getElem? (i := 0) rfl)) (hb hby at_1) (n := 3) rfl ?_
    refine o_iand X0 hx (hb hby at_3) (v := (p2 &&& (2147483647 : Int32))) rfl (n := 4) rfl ?_
    refine o_bipush X0 hx (hb hby at_4) (v := (11 : Int32)) rfl (n := 6) rfl ?_
    refine o_irem X0 hx (hb hby at_6) (by decide) (v := (4 : Int32)) q (n := 7) rfl ?_
    refine o_istore X0 hx (hb hby at_7) (Ls' := #[.val (.long p0), .second, .val (.int p1), .val (.int p2), .val (.int (4 : Int32)), .unset, .unset, .unset]) rfl (n := 9) rfl ?_
    refine o_iload X0 hx (hb hby at_9) (v := (4 : Int32)) rfl (n := 11) rfl ?_
    refine o_newarray X0 hx hZ (aty := .byte) (hw _ (List.mem_of_getElem? (i := 1) rfl)) e0 (hb hby at_11) (by decide) 4 (by decide) (by decide) (by decide) (by decide) (n := 13) rfl ?_
    intro T37 h37 b37 k37 X37 e37 g37 E37 V37
    have gg37 : n0 ≤ b37 := Nat.le_trans Z0 (Nat.le_of_eq g37.symm)
    have zz37 : n0 ≤ h37.size := Nat.le_trans Z0 E37.1
    have f38 : Arv Z h37 b37 k37 .byte (4 : Int32) [(.int (0 : Int32)), (.int (0 : Int32)), (.int (0 : Int32)), (.int (0 : Int32))] (.int (0 : Int32)) := V37.pad (pad_rep [] (.int (0 : Int32)) 4)
    refine o_astore X37 hx (hb hby at_13) rfl (Ls' := #[.val (.long p0), .second, .val (.int p1), .val (.int p2), .val (.int (4 : Int32)), .val (.ref b37), .unset, .unset]) rfl (n := 15) rfl ?_
    refine o_iload X37 hx (hb hby at_15) (v := (4 : Int32)) rfl (n := 17) rfl ?_
    refine o_ifN X37 hx (hb hby at_17) (XT.i0_le_f (by decide)) (n := 20) rfl ?_
    refine o_aload X37 hx (hb hby at_20) (v := (.ref b37)) rfl rfl (n := 22) rfl ?_
    refine o_iconst X37 hx (hb hby at_22) (v := (0 : Int32)) rfl (n := 23) rfl ?_
    refine o_lloadN X37 hx (hb hby at_23) (v := p0) rfl (n := 24) rfl ?_
    refine o_bipush X37 hx (hb hby at_24) (v := (56 : Int32)) rfl (n := 26) rfl ?_
    refine o_lushr X37 hx (hb hby at_26) (v := (p0.toUInt64 >>> (56 : UInt64)).toInt64) (congrArg (fun q : UInt64 => (p0.toUInt64 >>> q).toInt64) (show ((56 : Int32) &&& 0x3f).toInt64.toUInt64 = 56 by decide)) (n := 27) rfl ?_
    refine o_l2i X37 hx (hb hby at_27) (v := ((p0.toUInt64 >>> (56 : UInt64)).toInt64).toInt32) rfl (n := 28) rfl ?_
    refine o_i2b X37 hx (hb hby at_28) (v := (((p0.toUInt64 >>> (56 : UInt64)).toInt64).toInt32).toInt8.toInt32) rfl (n := 29) rfl ?_
    refine o_bastore X37 hx hZ e37 f38 (0) (by decide) (by decide) (Nat.le_of_ble_eq_true rfl) (w := (.int ((((p0.toUInt64 >>> (56 : UInt64)).toInt64).toInt32).toInt8.toInt32))) (congrArg Value.int (o_nar8 _)) (vs' := [(.int ((((p0.toUInt64 >>> (56 : UInt64)).toInt64).toInt32).toInt8.toInt32)), (.int (0 : Int32)), (.int (0 : Int32)), (.int (0 : Int32))]) rfl (hb hby at_29) (n := 30) rfl ?_
    intro T39 h39 X39 e39 W39 V39
    have zz39 : n0 ≤ h39.size := Nat.le_trans zz37 (Nat.le_of_eq W39.size.symm)
    have N40 := Fr.snoc X39 N0 gg37
    refine o_iload X39 hx (hb hby at_30) (v := (4 : Int32)) rfl (n := 32) rfl ?_
    refine o_iconst X39 hx (hb hby at_32) (v := (1 : Int32)) rfl (n := 33) rfl ?_
    refine o_icmpN X39 hx (hb hby at_33) (XT.ii_le_f (by decide)) (n := 36) rfl ?_
    refine o_aload X39 hx (hb hby at_36) (v := (.ref b37)) rfl rfl (n := 38) rfl ?_
    refine o_iconst X39 hx (hb hby at_38) (v := (1 : Int32)) rfl (n := 39) rfl ?_
    refine o_lloadN X39 hx (hb hby at_39) (v := p0) rfl (n := 40) rfl ?_
    refine o_bipush X39 hx (hb hby at_40) (v := (48 : Int32)) rfl (n := 42) rfl ?_
    refine o_lushr X39 hx (hb hby at_42) (v := (p0.toUInt64 >>> (48 : UInt64)).toInt64) (congrArg (fun q : UInt64 => (p0.toUInt64 >>> q).toInt64) (show ((48 : Int32) &&& 0x3f).toInt64.toUInt64 = 48 by decide)) (n := 43) rfl ?_
    refine o_l2i X39 hx (hb hby at_43) (v := ((p0.toUInt64 >>> (48 : UInt64)).toInt64).toInt32) rfl (n := 44) rfl ?_
    refine o_i2b X39 hx (hb hby at_44) (v := (((p0.toUInt64 >>> (48 : UInt64)).toInt64).toInt32).toInt8.toInt32) rfl (n := 45) rfl ?_
    refine o_bastore X39 hx hZ e39 V39 (1) (by decide) (by decide) (Nat.le_of_ble_eq_true rfl) (w := (.int ((((p0.toUInt64 >>> (48 : UInt64)).toInt64).toInt32).toInt8.toInt32))) (congrArg Value.int (o_nar8 _)) (vs' := [(.int ((((p0.toUInt64 >>> (56 : UInt64)).toInt64).toInt32).toInt8.toInt32)), (.int ((((p0.toUInt64 >>> (48 : UInt64)).toInt64).toInt32).toInt8.toInt32)), (.int (0 : Int32)), (.int (0 : Int32))]) rfl (hb hby at_45) (n := 46) rfl ?_
    intro T41 h41 X41 e41 W41 V41
    have zz41 : n0 ≤ h41.size := Nat.le_trans zz39 (Nat.le_of_eq W41.size.symm)
    have N42 := Fr.snoc X41 N40 gg37
    refine o_iload X41 hx (hb hby at_46) (v := (4 : Int32)) rfl (n := 48) rfl ?_
    refine o_iconst X41 hx (hb hby at_48) (v := (2 : Int32)) rfl (n := 49) rfl ?_
    refine o_icmpN X41 hx (hb hby at_49) (XT.ii_le_f (by decide)) (n := 52) rfl ?_
    refine o_aload X41 hx (hb hby at_52) (v := (.ref b37)) rfl rfl (n := 54) rfl ?_
    refine o_iconst X41 hx (hb hby at_54) (v := (2 : Int32)) rfl (n := 55) rfl ?_
    refine o_lloadN X41 hx (hb hby at_55) (v := p0) rfl (n := 56) rfl ?_
    refine o_bipush X41 hx (hb hby at_56) (v := (40 : Int32)) rfl (n := 58) rfl ?_
    refine o_lushr X41 hx (hb hby at_58) (v := (p0.toUInt64 >>> (40 : UInt64)).toInt64) (congrArg (fun q : UInt64 => (p0.toUInt64 >>> q).toInt64) (show ((40 : Int32) &&& 0x3f).toInt64.toUInt64 = 40 by decide)) (n := 59) rfl ?_
    refine o_l2i X41 hx (hb hby at_59) (v := ((p0.toUInt64 >>> (40 : UInt64)).toInt64).toInt32) rfl (n := 60) rfl ?_
    refine o_i2b X41 hx (hb hby at_60) (v := (((p0.toUInt64 >>> (40 : UInt64)).toInt64).toInt32).toInt8.toInt32) rfl (n := 61) rfl ?_
    refine o_bastore X41 hx hZ e41 V41 (2) (by decide) (by decide) (Nat.le_of_ble_eq_true rfl) (w := (.int ((((p0.toUInt64 >>> (40 : UInt64)).toInt64).toInt32).toInt8.toInt32))) (congrArg Value.int (o_nar8 _)) (vs' := [(.int ((((p0.toUInt64 >>> (56 : UInt64)).toInt64).toInt32).toInt8.toInt32)), (.int ((((p0.toUInt64 >>> (48 : UInt64)).toInt64).toInt32).toInt8.toInt32)), (.int ((((p0.toUInt64 >>> (40 : UInt64)).toInt64).toInt32).toInt8.toInt32)), (.int (0 : Int32))]) rfl (hb hby at_61) (n := 62) rfl ?_
    intro T43 h43 X43 e43 W43 V43
    have zz43 : n0 ≤ h43.size := Nat.le_trans zz41 (Nat.le_of_eq W43.size.symm)
    have N44 := Fr.snoc X43 N42 gg37
    refine o_iload X43 hx (hb hby at_62) (v := (4 : Int32)) rfl (n := 64) rfl ?_
    refine o_iconst X43 hx (hb hby at_64) (v := (3 : Int32)) rfl (n := 65) rfl ?_
    refine o_icmpN X43 hx (hb hby at_65) (XT.ii_le_f (by decide)) (n := 68) rfl ?_
    refine o_aload X43 hx (hb hby at_68) (v := (.ref b37)) rfl rfl (n := 70) rfl ?_
    refine o_iconst X43 hx (hb hby at_70) (v := (3 : Int32)) rfl (n := 71) rfl ?_
    refine o_lloadN X43 hx (hb hby at_71) (v := p0) rfl (n := 72) rfl ?_
    refine o_bipush X43 hx (hb hby at_72) (v := (32 : Int32)) rfl (n := 74) rfl ?_
    refine o_lushr X43 hx (hb hby at_74) (v := (p0.toUInt64 >>> (32 : UInt64)).toInt64) (congrArg (fun q : UInt64 => (p0.toUInt64 >>> q).toInt64) (show ((32 : Int32) &&& 0x3f).toInt64.toUInt64 = 32 by decide)) (n := 75) rfl ?_
    refine o_l2i X43 hx (hb hby at_75) (v := ((p0.toUInt64 >>> (32 : UInt64)).toInt64).toInt32) rfl (n := 76) rfl ?_
    refine o_i2b X43 hx (hb hby at_76) (v := (((p0.toUInt64 >>> (32 : UInt64)).toInt64).toInt32).toInt8.toInt32) rfl (n := 77) rfl ?_
    refine o_bastore X43 hx hZ e43 V43 (3) (by decide) (by decide) (Nat.le_of_ble_eq_true rfl) (w := (.int ((((p0.toUInt64 >>> (32 : UInt64)).toInt64).toInt32).toInt8.toInt32))) (congrArg Value.int (o_nar8 _)) (vs' := [(.int ((((p0.toUInt64 >>> (56 : UInt64)).toInt64).toInt32).toInt8.toInt32)), (.int ((((p0.toUInt64 >>> (48 : UInt64)).toInt64).toInt32).toInt8.toInt32)), (.int ((((p0.toUInt64 >>> (40 : UInt64)).toInt64).toInt32).toInt8.toInt32)), (.int ((((p0.toUInt64 >>> (32 : UInt64)).toInt64).toInt32).toInt8.toInt32))]) rfl (hb hby at_77) (n := 78) rfl ?_
    intro T45 h45 X45 e45 W45 V45
    have zz45 : n0 ≤ h45.size := Nat.le_trans zz43 (Nat.le_of_eq W45.size.symm)
    have N46 := Fr.snoc X45 N44 gg37
    refine o_iload X45 hx (hb hby at_78) (v := (4 : Int32)) rfl (n := 80) rfl ?_
    refine o_iconst X45 hx (hb hby at_80) (v := (4 : Int32)) rfl (n := 81) rfl ?_
    refine o_icmpY X45 hx (hb hby at_81) (XT.ii_le_t (by decide)) (by decide) (n := 94) (by decide) ?_
    refine o_iload X45 hx (hb hby at_94) (v := (4 : Int32)) rfl (n := 96) rfl ?_
    refine o_iconst X45 hx (hb hby at_96) (v := (5 : Int32)) rfl (n := 97) rfl ?_
    refine o_icmpY X45 hx (hb hby at_97) (XT.ii_le_t (by decide)) (by decide) (n := 110) (by decide) ?_
    refine o_iload X45 hx (hb hby at_110) (v := (4 : Int32)) rfl (n := 112) rfl ?_
    refine o_bipush X45 hx (hb hby at_112) (v := (6 : Int32)) rfl (n := 114) rfl ?_
    refine o_icmpY X45 hx (hb hby at_114) (XT.ii_le_t (by decide)) (by decide) (n := 128) (by decide) ?_
    refine o_iload X45 hx (hb hby at_128) (v := (4 : Int32)) rfl (n := 130) rfl ?_
    refine o_bipush X45 hx (hb hby at_130) (v := (7 : Int32)) rfl (n := 132) rfl ?_
    refine o_icmpY X45 hx (hb hby at_132) (XT.ii_le_t (by decide)) (by decide) (n := 143) (by decide) ?_
    refine o_iload X45 hx (hb hby at_143) (v := (4 : Int32)) rfl (n := 145) rfl ?_
    refine o_bipush X45 hx (hb hby at_145) (v := (8 : Int32)) rfl (n := 147) rfl ?_
    refine o_icmpY X45 hx (hb hby at_147) (XT.ii_le_t (by decide)) (by decide) (n := 157) (by decide) ?_
    refine o_iload X45 hx (hb hby at_157) (v := (4 : Int32)) rfl (n := 159) rfl ?_
    refine o_bipush X45 hx (hb hby at_159) (v := (9 : Int32)) rfl (n := 161) rfl ?_
    refine o_icmpY X45 hx (hb hby at_161) (XT.ii_le_t (by decide)) (by decide) (n := 174) (by decide) ?_
    refine o_aload X45 hx (hb hby at_174) (v := (.ref b37)) rfl rfl (n := 176) rfl ?_
    refine o_callS X45 hx hZ hown (hw _ (List.mem_of_getElem? (i := 2) rfl)) (hw _ (List.mem_of_getElem? (i := 3) rfl)) (hw _ (List.mem_of_getElem? (i := 4) rfl)) (hw _ (List.mem_of_getElem? (i := 5) rfl)) (by decide) e45 (argsL := [(.ref b37)]) (rest := []) (c_head_4 l Z a0 hw b37 k37 ((((p0.toUInt64 >>> (56 : UInt64)).toInt64).toInt32).toInt8.toInt32) ((((p0.toUInt64 >>> (48 : UInt64)).toInt64).toInt32).toInt8.toInt32) ((((p0.toUInt64 >>> (40 : UInt64)).toInt64).toInt32).toInt8.toInt32) ((((p0.toUInt64 >>> (32 : UInt64)).toInt64).toInt32).toInt8.toInt32) h45 V45) 0 (by decide) (by decide) (by decide) (by decide) (by rw [hml]; rfl) (lenOf o_pd0 rfl) rfl (Nat.le_of_eq rfl) (hb hby at_176) (n := 179) rfl ?_
    intro v47 T47 L47 X47 q47
    obtain ⟨rfl, e47, rfl⟩ := q47
    have N48 := Fr.app N46 (Fr.nil n0)
    show Goes p e below s _ _ _ (T47.setTop (mkF m 179 #[.val (.long p0), .second, .val (.int p1), .val (.int p2), .val (.int (4 : Int32)), .val (.ref b37), .unset, .unset] [(.long (o_st (o_st (o_st (o_st (o_st (o_st (o_st (o_st (0 : Int64) (((((p0.toUInt64 >>> (56 : UInt64)).toInt64).toInt32).toInt8.toInt32) &&& (255 : Int32))) (((((p0.toUInt64 >>> (48 : UInt64)).toInt64).toInt32).toInt8.toInt32) &&& (255 : Int32))) (((((p0.toUInt64 >>> (40 : UInt64)).toInt64).toInt32).toInt8.toInt32) &&& (255 : Int32))) (((((p0.toUInt64 >>> (32 : UInt64)).toInt64).toInt32).toInt8.toInt32) &&& (255 : Int32))) (0 : Int32)) (0 : Int32)) (0 : Int32)) (0 : Int32)))]))
    refine o_lstore X47 hx (hb hby at_179) (Ls' := #[.val (.long p0), .second, .val (.int p1), .val (.int p2), .val (.int (4 : Int32)), .val (.ref b37), .val (.long (o_st (o_st (o_st (o_st (o_st (o_st (o_st (o_st (0 : Int64) (((((p0.toUInt64 >>> (56 : UInt64)).toInt64).toInt32).toInt8.toInt32) &&& (255 : Int32))) (((((p0.toUInt64 >>> (48 : UInt64)).toInt64).toInt32).toInt8.toInt32) &&& (255 : Int32))) (((((p0.toUInt64 >>> (40 : UInt64)).toInt64).toInt32).toInt8.toInt32) &&& (255 : Int32))) (((((p0.toUInt64 >>> (32 : UInt64)).toInt64).toInt32).toInt8.toInt32) &&& (255 : Int32))) (0 : Int32)) (0 : Int32)) (0 : Int32)) (0 : Int32))), .second]) rfl (n := 181) rfl ?_
    generalize h_g : (o_st (o_st (o_st (o_st (o_st (o_st (o_st (o_st (0 : Int64) (((((p0.toUInt64 >>> (56 : UInt64)).toInt64).toInt32).toInt8.toInt32) &&& (255 : Int32))) (((((p0.toUInt64 >>> (48 : UInt64)).toInt64).toInt32).toInt8.toInt32) &&& (255 : Int32))) (((((p0.toUInt64 >>> (40 : UInt64)).toInt64).toInt32).toInt8.toInt32) &&& (255 : Int32))) (((((p0.toUInt64 >>> (32 : UInt64)).toInt64).toInt32).toInt8.toInt32) &&& (255 : Int32))) (0 : Int32)) (0 : Int32)) (0 : Int32)) (0 : Int32)) = g
    refine o_lload X47 hx (hb hby at_181) (v := g) rfl (n := 183) rfl ?_
    refine o_lloadN X47 hx (hb hby at_183) (v := p0) rfl (n := 184) rfl ?_
    refine o_iload X47 hx (hb hby at_184) (v := (4 : Int32)) rfl (n := 186) rfl ?_
    refine o_callS X47 hx hZ hown (hw _ (List.mem_of_getElem? (i := 6) rfl)) (hw _ (List.mem_of_getElem? (i := 7) rfl)) (hw _ (List.mem_of_getElem? (i := 8) rfl)) (hw _ (List.mem_of_getElem? (i := 9) rfl)) (by decide) e47 (argsL := [(.long p0), (.int (4 : Int32))]) (rest := [(.long g)]) (c_exp_4 l Z a0 hw p0 h45) 2 (by decide) (by decide) (by decide) (by decide) (by rw [hml]; rfl) (lenOf o_pd1 rfl) rfl (Nat.le_of_eq rfl) (hb hby at_186) (n := 189) rfl ?_
    intro v49 T49 L49 X49 q49
    obtain ⟨rfl, e49, rfl⟩ := q49
    have N50 := Fr.app N48 (Fr.nil n0)
    show Goes p e below s _ _ _ (T49.setTop (mkF m 189 #[.val (.long p0), .second, .val (.int p1), .val (.int p2), .val (.int (4 : Int32)), .val (.ref b37), .val (.long g), .second] [(.long (p0 &&& (-4294967296 : Int64))), (.long g)]))
    refine o_lcmp X49 hx (hb hby at_189) (n := 190) rfl ?_
    refine o_ifN X49 hx (hb hby at_190) (XT.ll_ne_f (h_g ▸ o_eq_4 p0)) (n := 193) rfl ?_
    refine o_iconst X49 hx (hb hby at_193) (v := (1 : Int32)) rfl (n := 194) rfl ?_
    refine o_goto X49 hx (hb hby at_194) (by decide) (n := 198) (by decide) ?_
    exact o_nreturn X49 hx hret hlk (t := .boolean) (by simp) (hb hby at_198) (by decide) (by decide) e49 ⟨rfl, N50⟩
  · refine o_iloadN X0 hx (hb hby at_0) (v := p2) rfl (n := 1) rfl ?_
    refine o_ldc X0 hx hZ (v := (2147483647 : Int32)) hown (hw _ (List.mem_of_getElem? (i := 0) rfl)) (hb hby at_1) (n := 3) rfl ?_
    refine o_iand X0 hx (hb hby at_3) (v := (p2 &&& (2147483647 : Int32))) rfl (n := 4) rfl ?_
    refine o_bipush X0 hx (hb hby at_4) (v := (11 : Int32)) rfl (n := 6) rfl ?_
    refine o_irem X0 hx (hb hby at_6) (by decide) (v := (5 : Int32)) q (n := 7) rfl ?_
    refine o_istore X0 hx (hb hby at_7) (Ls' := #[.val (.long p0), .second, .val (.int p1), .val (.int p2), .val (.int (5 : Int32)), .unset, .unset, .unset]) rfl (n := 9) rfl ?_
    refine o_iload X0 hx (hb hby at_9) (v := (5 : Int32)) rfl (n := 11) rfl ?_
    refine o_newarray X0 hx hZ (aty := .byte) (hw _ (List.mem_of_getElem? (i := 1) rfl)) e0 (hb hby at_11) (by decide) 5 (by decide) (by decide) (by decide) (by decide) (n := 13) rfl ?_
    intro T51 h51 b51 k51 X51 e51 g51 E51 V51
    have gg51 : n0 ≤ b51 := Nat.le_trans Z0 (Nat.le_of_eq g51.symm)
    have zz51 : n0 ≤ h51.size := Nat.le_trans Z0 E51.1
    have f52 : Arv Z h51 b51 k51 .byte (5 : Int32) [(.int (0 : Int32)), (.int (0 : Int32)), (.int (0 : Int32)), (.int (0 : Int32)), (.int (0 : Int32))] (.int (0 : Int32)) := V51.pad (pad_rep [] (.int (0 : Int32)) 5)
    refine o_astore X51 hx (hb hby at_13) rfl (Ls' := #[.val (.long p0), .second, .val (.int p1), .val (.int p2), .val (.int (5 : Int32)), .val (.ref b51), .unset, .unset]) rfl (n := 15) rfl ?_
    refine o_iload X51 hx (hb hby at_15) (v := (5 : Int32)) rfl (n := 17) rfl ?_
    refine o_ifN X51 hx (hb hby at_17) (XT.i0_le_f (by decide)) (n := 20) rfl ?_
    refine o_aload X51 hx (hb hby at_20) (v := (.ref b51)) rfl rfl (n := 22) rfl ?_
    refine o_iconst X51 hx (hb hby at_22) (v := (0 : Int32)) rfl (n := 23) rfl ?_
    refine o_lloadN X51 hx (hb hby at_23) (v := p0) rfl (n := 24) rfl ?_
    refine o_bipush X51 hx (hb hby at_24) (v := (56 : Int32)) rfl (n := 26) rfl ?_
    refine o_lushr X51 hx (hb hby at_26) (v := (p0.toUInt64 >>> (56 : UInt64)).toInt64) (congrArg (fun q : UInt64 => (p0.toUInt64 >>> q).toInt64) (show ((56 : Int32) &&& 0x3f).toInt64.toUInt64 = 56 by decide)) (n := 27) rfl ?_
    refine o_l2i X51 hx (hb hby at_27) (v := ((p0.toUInt64 >>> (56 : UInt64)).toInt64).toInt32) rfl (n := 28) rfl ?_
    refine o_i2b X51 hx (hb hby at_28) (v := (((p0.toUInt64 >>> (56 : UInt64)).toInt64).toInt32).toInt8.toInt32) rfl (n := 29) rfl ?_
    refine o_bastore X51 hx hZ e51 f52 (0) (by decide) (by decide) (Nat.le_of_ble_eq_true rfl) (w := (.int ((((p0.toUInt64 >>> (56 : UInt64)).toInt64).toInt32).toInt8.toInt32))) (congrArg Value.int (o_nar8 _)) (vs' := [(.int ((((p0.toUInt64 >>> (56 : UInt64)).toInt64).toInt32).toInt8.toInt32)), (.int (0 : Int32)), (.int (0 : Int32)), (.int (0 : Int32)), (.int (0 : Int32))]) rfl (hb hby at_29) (n := 30) rfl ?_
    intro T53 h53 X53 e53 W53 V53
    have zz53 : n0 ≤ h53.size := Nat.le_trans zz51 (Nat.le_of_eq W53.size.symm)
    have N54 := Fr.snoc X53 N0 gg51
    refine o_iload X53 hx (hb hby at_30) (v := (5 : Int32)) rfl (n := 32) rfl ?_
    refine o_iconst X53 hx (hb hby at_32) (v := (1 : Int32)) rfl (n := 33) rfl ?_
    refine o_icmpN X53 hx (hb hby at_33) (XT.ii_le_f (by decide)) (n := 36) rfl ?_
    refine o_aload X53 hx (hb hby at_36) (v := (.ref b51)) rfl rfl (n := 38) rfl ?_
    refine o_iconst X53 hx (hb hby at_38) (v := (1 : Int32)) rfl (n := 39) rfl ?_
    refine o_lloadN X53 hx (hb hby at_39) (v := p0) rfl (n := 40) rfl ?_
    refine o_bipush X53 hx (hb hby at_40) (v := (48 : Int32)) rfl (n := 42) rfl ?_
    refine o_lushr X53 hx (hb hby at_42) (v := (p0.toUInt64 >>> (48 : UInt64)).toInt64) (congrArg (fun q : UInt64 => (p0.toUInt64 >>> q).toInt64) (show ((48 : Int32) &&& 0x3f).toInt64.toUInt64 = 48 by decide)) (n := 43) rfl ?_
    refine o_l2i X53 hx (hb hby at_43) (v := ((p0.toUInt64 >>> (48 : UInt64)).toInt64).toInt32) rfl (n := 44) rfl ?_
    refine o_i2b X53 hx (hb hby at_44) (v := (((p0.toUInt64 >>> (48 : UInt64)).toInt64).toInt32).toInt8.toInt32) rfl (n := 45) rfl ?_
    refine o_bastore X53 hx hZ e53 V53 (1) (by decide) (by decide) (Nat.le_of_ble_eq_true rfl) (w := (.int ((((p0.toUInt64 >>> (48 : UInt64)).toInt64).toInt32).toInt8.toInt32))) (congrArg Value.int (o_nar8 _)) (vs' := [(.int ((((p0.toUInt64 >>> (56 : UInt64)).toInt64).toInt32).toInt8.toInt32)), (.int ((((p0.toUInt64 >>> (48 : UInt64)).toInt64).toInt32).toInt8.toInt32)), (.int (0 : Int32)), (.int (0 : Int32)), (.int (0 : Int32))]) rfl (hb hby at_45) (n := 46) rfl ?_
    intro T55 h55 X55 e55 W55 V55
    have zz55 : n0 ≤ h55.size := Nat.le_trans zz53 (Nat.le_of_eq W55.size.symm)
    have N56 := Fr.snoc X55 N54 gg51
    refine o_iload X55 hx (hb hby at_46) (v := (5 : Int32)) rfl (n := 48) rfl ?_
    refine o_iconst X55 hx (hb hby at_48) (v := (2 : Int32)) rfl (n := 49) rfl ?_
    refine o_icmpN X55 hx (hb hby at_49) (XT.ii_le_f (by decide)) (n := 52) rfl ?_
    refine o_aload X55 hx (hb hby at_52) (v := (.ref b51)) rfl rfl (n := 54) rfl ?_
    refine o_iconst X55 hx (hb hby at_54) (v := (2 : Int32)) rfl (n := 55) rfl ?_
    refine o_lloadN X55 hx (hb hby at_55) (v := p0) rfl (n := 56) rfl ?_
    refine o_bipush X55 hx (hb hby at_56) (v := (40 : Int32)) rfl (n := 58) rfl ?_
    refine o_lushr X55 hx (hb hby at_58) (v := (p0.toUInt64 >>> (40 : UInt64)).toInt64) (congrArg (fun q : UInt64 => (p0.toUInt64 >>> q).toInt64) (show ((40 : Int32) &&& 0x3f).toInt64.toUInt64 = 40 by decide)) (n := 59) rfl ?_
    refine o_l2i X55 hx (hb hby at_59) (v := ((p0.toUInt64 >>> (40 : UInt64)).toInt64).toInt32) rfl (n := 60) rfl ?_
    refine o_i2b X55 hx (hb hby at_60) (v := (((p0.toUInt64 >>> (40 : UInt64)).toInt64).toInt32).toInt8.toInt32) rfl (n := 61) rfl ?_
    refine o_bastore X55 hx hZ e55 V55 (2) (by decide) (by decide) (Nat.le_of_ble_eq_true rfl) (w := (.int ((((p0.toUInt64 >>> (40 : UInt64)).toInt64).toInt32).toInt8.toInt32))) (congrArg Value.int (o_nar8 _)) (vs' := [(.int ((((p0.toUInt64 >>> (56 : UInt64)).toInt64).toInt32).toInt8.toInt32)), (.int ((((p0.toUInt64 >>> (48 : UInt64)).toInt64).toInt32).toInt8.toInt32)), (.int ((((p0.toUInt64 >>> (40 : UInt64)).toInt64).toInt32).toInt8.toInt32)), (.int (0 : Int32)), (.int (0 : Int32))]) rfl (hb hby at_61) (n := 62) rfl ?_
    intro T57 h57 X57 e57 W57 V57
    have zz57 : n0 ≤ h57.size := Nat.le_trans zz55 (Nat.le_of_eq W57.size.symm)
    have N58 := Fr.snoc X57 N56 gg51
    refine o_iload X57 hx (hb hby at_62) (v := (5 : Int32)) rfl (n := 64) rfl ?_
    refine o_iconst X57 hx (hb hby at_64) (v := (3 : Int32)) rfl (n := 65) rfl ?_
    refine o_icmpN X57 hx (hb hby at_65) (XT.ii_le_f (by decide)) (n := 68) rfl ?_
    refine o_aload X57 hx (hb hby at_68) (v := (.ref b51)) rfl rfl (n := 70) rfl ?_
    refine o_iconst X57 hx (hb hby at_70) (v := (3 : Int32)) rfl (n := 71) rfl ?_
    refine o_lloadN X57 hx (hb hby at_71) (v := p0) rfl (n := 72) rfl ?_
    refine o_bipush X57 hx (hb hby at_72) (v := (32 : Int32)) rfl (n := 74) rfl ?_
    refine o_lushr X57 hx (hb hby at_74) (v := (p0.toUInt64 >>> (32 : UInt64)).toInt64) (congrArg (fun q : UInt64 => (p0.toUInt64 >>> q).toInt64) (show ((32 : Int32) &&& 0x3f).toInt64.toUInt64 = 32 by decide)) (n := 75) rfl ?_
    refine o_l2i X57 hx (hb hby at_75) (v := ((p0.toUInt64 >>> (32 : UInt64)).toInt64).toInt32) rfl (n := 76) rfl ?_
    refine o_i2b X57 hx (hb hby at_76) (v := (((p0.toUInt64 >>> (32 : UInt64)).toInt64).toInt32).toInt8.toInt32) rfl (n := 77) rfl ?_
    refine o_bastore X57 hx hZ e57 V57 (3) (by decide) (by decide) (Nat.le_of_ble_eq_true rfl) (w := (.int ((((p0.toUInt64 >>> (32 : UInt64)).toInt64).toInt32).toInt8.toInt32))) (congrArg Value.int (o_nar8 _)) (vs' := [(.int ((((p0.toUInt64 >>> (56 : UInt64)).toInt64).toInt32).toInt8.toInt32)), (.int ((((p0.toUInt64 >>> (48 : UInt64)).toInt64).toInt32).toInt8.toInt32)), (.int ((((p0.toUInt64 >>> (40 : UInt64)).toInt64).toInt32).toInt8.toInt32)), (.int ((((p0.toUInt64 >>> (32 : UInt64)).toInt64).toInt32).toInt8.toInt32)), (.int (0 : Int32))]) rfl (hb hby at_77) (n := 78) rfl ?_
    intro T59 h59 X59 e59 W59 V59
    have zz59 : n0 ≤ h59.size := Nat.le_trans zz57 (Nat.le_of_eq W59.size.symm)
    have N60 := Fr.snoc X59 N58 gg51
    refine o_iload X59 hx (hb hby at_78) (v := (5 : Int32)) rfl (n := 80) rfl ?_
    refine o_iconst X59 hx (hb hby at_80) (v := (4 : Int32)) rfl (n := 81) rfl ?_
    refine o_icmpN X59 hx (hb hby at_81) (XT.ii_le_f (by decide)) (n := 84) rfl ?_
    refine o_aload X59 hx (hb hby at_84) (v := (.ref b51)) rfl rfl (n := 86) rfl ?_
    refine o_iconst X59 hx (hb hby at_86) (v := (4 : Int32)) rfl (n := 87) rfl ?_
    refine o_lloadN X59 hx (hb hby at_87) (v := p0) rfl (n := 88) rfl ?_
    refine o_bipush X59 hx (hb hby at_88) (v := (24 : Int32)) rfl (n := 90) rfl ?_
    refine o_lushr X59 hx (hb hby at_90) (v := (p0.toUInt64 >>> (24 : UInt64)).toInt64) (congrArg (fun q : UInt64 => (p0.toUInt64 >>> q).toInt64) (show ((24 : Int32) &&& 0x3f).toInt64.toUInt64 = 24 by decide)) (n := 91) rfl ?_
    refine o_l2i X59 hx (hb hby at_91) (v := ((p0.toUInt64 >>> (24 : UInt64)).toInt64).toInt32) rfl (n := 92) rfl ?_
    refine o_i2b X59 hx (hb hby at_92) (v := (((p0.toUInt64 >>> (24 : UInt64)).toInt64).toInt32).toInt8.toInt32) rfl (n := 93) rfl ?_
    refine o_bastore X59 hx hZ e59 V59 (4) (by decide) (by decide) (Nat.le_of_ble_eq_true rfl) (w := (.int ((((p0.toUInt64 >>> (24 : UInt64)).toInt64).toInt32).toInt8.toInt32))) (congrArg Value.int (o_nar8 _)) (vs' := [(.int ((((p0.toUInt64 >>> (56 : UInt64)).toInt64).toInt32).toInt8.toInt32)), (.int ((((p0.toUInt64 >>> (48 : UInt64)).toInt64).toInt32).toInt8.toInt32)), (.int ((((p0.toUInt64 >>> (40 : UInt64)).toInt64).toInt32).toInt8.toInt32)), (.int ((((p0.toUInt64 >>> (32 : UInt64)).toInt64).toInt32).toInt8.toInt32)), (.int ((((p0.toUInt64 >>> (24 : UInt64)).toInt64).toInt32).toInt8.toInt32))]) rfl (hb hby at_93) (n := 94) rfl ?_
    intro T61 h61 X61 e61 W61 V61
    have zz61 : n0 ≤ h61.size := Nat.le_trans zz59 (Nat.le_of_eq W61.size.symm)
    have N62 := Fr.snoc X61 N60 gg51
    refine o_iload X61 hx (hb hby at_94) (v := (5 : Int32)) rfl (n := 96) rfl ?_
    refine o_iconst X61 hx (hb hby at_96) (v := (5 : Int32)) rfl (n := 97) rfl ?_
    refine o_icmpY X61 hx (hb hby at_97) (XT.ii_le_t (by decide)) (by decide) (n := 110) (by decide) ?_
    refine o_iload X61 hx (hb hby at_110) (v := (5 : Int32)) rfl (n := 112) rfl ?_
    refine o_bipush X61 hx (hb hby at_112) (v := (6 : Int32)) rfl (n := 114) rfl ?_
    refine o_icmpY X61 hx (hb hby at_114) (XT.ii_le_t (by decide)) (by decide) (n := 128) (by decide) ?_
    refine o_iload X61 hx (hb hby at_128) (v := (5 : Int32)) rfl (n := 130) rfl ?_
    refine o_bipush X61 hx (hb hby at_130) (v := (7 : Int32)) rfl (n := 132) rfl ?_
    refine o_icmpY X61 hx (hb hby at_132) (XT.ii_le_t (by decide)) (by decide) (n := 143) (by decide) ?_
    refine o_iload X61 hx (hb hby at_143) (v := (5 : Int32)) rfl (n := 145) rfl ?_
    refine o_bipush X61 hx (hb hby at_145) (v := (8 : Int32)) rfl (n := 147) rfl ?_
    refine o_icmpY X61 hx (hb hby at_147) (XT.ii_le_t (by decide)) (by decide) (n := 157) (by decide) ?_
    refine o_iload X61 hx (hb hby at_157) (v := (5 : Int32)) rfl (n := 159) rfl ?_
    refine o_bipush X61 hx (hb hby at_159) (v := (9 : Int32)) rfl (n := 161) rfl ?_
    refine o_icmpY X61 hx (hb hby at_161) (XT.ii_le_t (by decide)) (by decide) (n := 174) (by decide) ?_
    refine o_aload X61 hx (hb hby at_174) (v := (.ref b51)) rfl rfl (n := 176) rfl ?_
    refine o_callS X61 hx hZ hown (hw _ (List.mem_of_getElem? (i := 2) rfl)) (hw _ (List.mem_of_getElem? (i := 3) rfl)) (hw _ (List.mem_of_getElem? (i := 4) rfl)) (hw _ (List.mem_of_getElem? (i := 5) rfl)) (by decide) e61 (argsL := [(.ref b51)]) (rest := []) (c_head_5 l Z a0 hw b51 k51 ((((p0.toUInt64 >>> (56 : UInt64)).toInt64).toInt32).toInt8.toInt32) ((((p0.toUInt64 >>> (48 : UInt64)).toInt64).toInt32).toInt8.toInt32) ((((p0.toUInt64 >>> (40 : UInt64)).toInt64).toInt32).toInt8.toInt32) ((((p0.toUInt64 >>> (32 : UInt64)).toInt64).toInt32).toInt8.toInt32) ((((p0.toUInt64 >>> (24 : UInt64)).toInt64).toInt32).toInt8.toInt32) h61 V61) 0 (by decide) (by decide) (by decide) (by decide) (by rw [hml]; rfl) (lenOf o_pd0 rfl) rfl (Nat.le_of_eq rfl) (hb hby at_176) (n := 179) rfl ?_
    intro v63 T63 L63 X63 q63
    obtain ⟨rfl, e63, rfl⟩ := q63
    have N64 := Fr.app N62 (Fr.nil n0)
    show Goes p e below s _ _ _ (T63.setTop (mkF m 179 #[.val (.long p0), .second, .val (.int p1), .val (.int p2), .val (.int (5 : Int32)), .val (.ref b51), .unset, .unset] [(.long (o_st (o_st (o_st (o_st (o_st (o_st (o_st (o_st (0 : Int64) (((((p0.toUInt64 >>> (56 : UInt64)).toInt64).toInt32).toInt8.toInt32) &&& (255 : Int32))) (((((p0.toUInt64 >>> (48 : UInt64)).toInt64).toInt32).toInt8.toInt32) &&& (255 : Int32))) (((((p0.toUInt64 >>> (40 : UInt64)).toInt64).toInt32).toInt8.toInt32) &&& (255 : Int32))) (((((p0.toUInt64 >>> (32 : UInt64)).toInt64).toInt32).toInt8.toInt32) &&& (255 : Int32))) (((((p0.toUInt64 >>> (24 : UInt64)).toInt64).toInt32).toInt8.toInt32) &&& (255 : Int32))) (0 : Int32)) (0 : Int32)) (0 : Int32)))]))
    refine o_lstore X63 hx (hb hby at_179) (Ls' := #[.val (.long p0), .second, .val (.int p1), .val (.int p2), .val (.int (5 : Int32)), .val (.ref b51), .val (.long (o_st (o_st (o_st (o_st (o_st (o_st (o_st (o_st (0 : Int64) (((((p0.toUInt64 >>> (56 : UInt64)).toInt64).toInt32).toInt8.toInt32) &&& (255 : Int32))) (((((p0.toUInt64 >>> (48 : UInt64)).toInt64).toInt32).toInt8.toInt32) &&& (255 : Int32))) (((((p0.toUInt64 >>> (40 : UInt64)).toInt64).toInt32).toInt8.toInt32) &&& (255 : Int32))) (((((p0.toUInt64 >>> (32 : UInt64)).toInt64).toInt32).toInt8.toInt32) &&& (255 : Int32))) (((((p0.toUInt64 >>> (24 : UInt64)).toInt64).toInt32).toInt8.toInt32) &&& (255 : Int32))) (0 : Int32)) (0 : Int32)) (0 : Int32))), .second]) rfl (n := 181) rfl ?_
    generalize h_g : (o_st (o_st (o_st (o_st (o_st (o_st (o_st (o_st (0 : Int64) (((((p0.toUInt64 >>> (56 : UInt64)).toInt64).toInt32).toInt8.toInt32) &&& (255 : Int32))) (((((p0.toUInt64 >>> (48 : UInt64)).toInt64).toInt32).toInt8.toInt32) &&& (255 : Int32))) (((((p0.toUInt64 >>> (40 : UInt64)).toInt64).toInt32).toInt8.toInt32) &&& (255 : Int32))) (((((p0.toUInt64 >>> (32 : UInt64)).toInt64).toInt32).toInt8.toInt32) &&& (255 : Int32))) (((((p0.toUInt64 >>> (24 : UInt64)).toInt64).toInt32).toInt8.toInt32) &&& (255 : Int32))) (0 : Int32)) (0 : Int32)) (0 : Int32)) = g
    refine o_lload X63 hx (hb hby at_181) (v := g) rfl (n := 183) rfl ?_
    refine o_lloadN X63 hx (hb hby at_183) (v := p0) rfl (n := 184) rfl ?_
    refine o_iload X63 hx (hb hby at_184) (v := (5 : Int32)) rfl (n := 186) rfl ?_
    refine o_callS X63 hx hZ hown (hw _ (List.mem_of_getElem? (i := 6) rfl)) (hw _ (List.mem_of_getElem? (i := 7) rfl)) (hw _ (List.mem_of_getElem? (i := 8) rfl)) (hw _ (List.mem_of_getElem? (i := 9) rfl)) (by decide) e63 (argsL := [(.long p0), (.int (5 : Int32))]) (rest := [(.long g)]) (c_exp_5 l Z a0 hw p0 h61) 2 (by decide) (by decide) (by decide) (by decide) (by rw [hml]; rfl) (lenOf o_pd1 rfl) rfl (Nat.le_of_eq rfl) (hb hby at_186) (n := 189) rfl ?_
    intro v65 T65 L65 X65 q65
    obtain ⟨rfl, e65, rfl⟩ := q65
    have N66 := Fr.app N64 (Fr.nil n0)
    show Goes p e below s _ _ _ (T65.setTop (mkF m 189 #[.val (.long p0), .second, .val (.int p1), .val (.int p2), .val (.int (5 : Int32)), .val (.ref b51), .val (.long g), .second] [(.long (p0 &&& (-16777216 : Int64))), (.long g)]))
    refine o_lcmp X65 hx (hb hby at_189) (n := 190) rfl ?_
    refine o_ifN X65 hx (hb hby at_190) (XT.ll_ne_f (h_g ▸ o_eq_5 p0)) (n := 193) rfl ?_
    refine o_iconst X65 hx (hb hby at_193) (v := (1 : Int32)) rfl (n := 194) rfl ?_
    refine o_goto X65 hx (hb hby at_194) (by decide) (n := 198) (by decide) ?_
    exact o_nreturn X65 hx hret hlk (t := .boolean) (by simp) (hb hby at_198) (by decide) (by decide) e65 ⟨rfl, N66⟩
  · refine o_iloadN X0 hx (hb hby at_0) (v := p2) rfl (n := 1) rfl ?_
    refine o_ldc X0 hx hZ (v := (2147483647 : Int32)) hown (hw _ (List.mem_of_getElem? (i := 0) rfl)) (hb hby at_1) (n := 3) rfl ?_
    refine o_iand X0 hx (hb hby at_3) (v := (p2 &&& (2147483647 : Int32))) rfl (n := 4) rfl ?_
    refine o_bipush X0 hx (hb hby at_4) (v := (11 : Int32)) rfl (n := 6) rfl ?_
    refine o_irem X0 hx (hb hby at_6) (by decide) (v := (6 : Int32)) q (n := 7) rfl ?_
    refine o_istore X0 hx (hb hby at_7) (Ls' := #[.val (.long p0), .second, .val (.int p1), .val (.int p2), .val (.int (6 : Int32)), .unset, .unset, .unset]) rfl (n := 9) rfl ?_
    refine o_iload X0 hx (hb hby at_9) (v := (6 : Int32)) rfl (n := 11) rfl ?_
    refine o_newarray X0 hx hZ (aty := .byte) (hw _ (List.mem_of_getElem? (i := 1) rfl)) e0 (hb hby at_11) (by decide) 6 (by decide) (by decide) (by decide) (by decide) (n := 13) rfl ?_
    intro T67 h67 b67 k67 X67 e67 g67 E67 V67
    have gg67 : n0 ≤ b67 := Nat.le_trans Z0 (Nat.le_of_eq g67.symm)
    have zz67 : n0 ≤ h67.size := Nat.le_trans Z0 E67.1
    have f68 : Arv Z h67 b67 k67 .byte (6 : Int32) [(.int (0 : Int32)), (.int (0 : Int32)), (.int (0 : Int32)), (.int (0 : Int32)), (.int (0 : Int32)), (.int (0 : Int32))] (.int (0 : Int32)) := V67.pad (pad_rep [] (.int (0 : Int32)) 6)
    refine o_astore X67 hx (hb hby at_13) rfl (Ls' := #[.val (.long p0), .second, .val (.int p1), .val (.int p2), .val (.int (6 : Int32)), .val (.ref b67), .unset, .unset]) rfl (n := 15) rfl ?_
    refine o_iload X67 hx (hb hby at_15) (v := (6 : Int32)) rfl (n := 17) rfl ?_
    refine o_ifN X67 hx (hb hby at_17) (XT.i0_le_f (by decide)) (n := 20) rfl ?_
    refine o_aload X67 hx (hb hby at_20) (v := (.ref b67)) rfl rfl (n := 22) rfl ?_
    refine o_iconst X67 hx (hb hby at_22) (v := (0 : Int32)) rfl (n := 23) rfl ?_
    refine o_lloadN X67 hx (hb hby at_23) (v := p0) rfl (n := 24) rfl ?_
    refine o_bipush X67 hx (hb hby at_24) (v := (56 : Int32)) rfl (n := 26) rfl ?_
    refine o_lushr X67 hx (hb hby at_26) (v := (p0.toUInt64 >>> (56 : UInt64)).toInt64) (congrArg (fun q : UInt64 => (p0.toUInt64 >>> q).toInt64) (show ((56 : Int32) &&& 0x3f).toInt64.toUInt64 = 56 by decide)) (n := 27) rfl ?_
    refine o_l2i X67 hx (hb hby at_27) (v := ((p0.toUInt64 >>> (56 : UInt64)).toInt64).toInt32) rfl (n := 28) rfl ?_
    refine o_i2b X67 hx (hb hby at_28) (v := (((p0.toUInt64 >>> (56 : UInt64)).toInt64).toInt32).toInt8.toInt32) rfl (n := 29) rfl ?_
    refine o_bastore X67 hx hZ e67 f68 (0) (by decide) (by decide) (Nat.le_of_ble_eq_true rfl) (w := (.int ((((p0.toUInt64 >>> (56 : UInt64)).toInt64).toInt32).toInt8.toInt32))) (congrArg Value.int (o_nar8 _)) (vs' := [(.int ((((p0.toUInt64 >>> (56 : UInt64)).toInt64).toInt32).toInt8.toInt32)), (.int (0 : Int32)), (.int (0 : Int32)), (.int (0 : Int32)), (.int (0 : Int32)), (.int (0 : Int32))]) rfl (hb hby at_29) (n := 30) rfl ?_
    intro T69 h69 X69 e69 W69 V69
    have zz69 : n0 ≤ h69.size := Nat.le_trans zz67 (Nat.le_of_eq W69.size.symm)
    have N70 := Fr.snoc X69 N0 gg67
    refine o_iload X69 hx (hb hby at_30) (v := (6 : Int32)) rfl (n := 32) rfl ?_
    refine o_iconst X69 hx (hb hby at_32) (v := (1 : Int32)) rfl (n := 33) rfl ?_
    refine o_icmpN X69 hx (hb hby at_33) (XT.ii_le_f (by decide)) (n := 36) rfl ?_
    refine o_aload X69 hx (hb hby at_36) (v := (.ref b67)) rfl rfl (n := 38) rfl ?_
    refine o_iconst X69 hx (hb hby at_38) (v := (1 : Int32)) rfl (n := 39) rfl ?_
    refine o_lloadN X69 hx (hb hby at_39) (v := p0) rfl (n := 40) rfl ?_
    refine o_bipush X69 hx (hb hby at_40) (v := (48 : Int32)) rfl (n := 42) rfl ?_
    refine o_lushr X69 hx (hb hby at_42) (v := (p0.toUInt64 >>> (48 : UInt64)).toInt64) (congrArg (fun q : UInt64 => (p0.toUInt64 >>> q).toInt64) (show ((48 : Int32) &&& 0x3f).toInt64.toUInt64 = 48 by decide)) (n := 43) rfl ?_
    refine o_l2i X69 hx (hb hby at_43) (v := ((p0.toUInt64 >>> (48 : UInt64)).toInt64).toInt32) rfl (n := 44) rfl ?_
    refine o_i2b X69 hx (hb hby at_44) (v := (((p0.toUInt64 >>> (48 : UInt64)).toInt64).toInt32).toInt8.toInt32) rfl (n := 45) rfl ?_
    refine o_bastore X69 hx hZ e69 V69 (1) (by decide) (by decide) (Nat.le_of_ble_eq_true rfl) (w := (.int ((((p0.toUInt64 >>> (48 : UInt64)).toInt64).toInt32).toInt8.toInt32))) (congrArg Value.int (o_nar8 _)) (vs' := [(.int ((((p0.toUInt64 >>> (56 : UInt64)).toInt64).toInt32).toInt8.toInt32)), (.int ((((p0.toUInt64 >>> (48 : UInt64)).toInt64).toInt32).toInt8.toInt32)), (.int (0 : Int32)), (.int (0 : Int32)), (.int (0 : Int32)), (.int (0 : Int32))]) rfl (hb hby at_45) (n := 46) rfl ?_
    intro T71 h71 X71 e71 W71 V71
    have zz71 : n0 ≤ h71.size := Nat.le_trans zz69 (Nat.le_of_eq W71.size.symm)
    have N72 := Fr.snoc X71 N70 gg67
    refine o_iload X71 hx (hb hby at_46) (v := (6 : Int32)) rfl (n := 48) rfl ?_
    refine o_iconst X71 hx (hb hby at_48) (v := (2 : Int32)) rfl (n := 49) rfl ?_
    refine o_icmpN X71 hx (hb hby at_49) (XT.ii_le_f (by decide)) (n := 52) rfl ?_
    refine o_aload X71 hx (hb hby at_52) (v := (.ref b67)) rfl rfl (n := 54) rfl ?_
    refine o_iconst X71 hx (hb hby at_54) (v := (2 : Int32)) rfl (n := 55) rfl ?_
    refine o_lloadN X71 hx (hb hby at_55) (v := p0) rfl (n := 56) rfl ?_
    refine o_bipush X71 hx (hb hby at_56) (v := (40 : Int32)) rfl (n := 58) rfl ?_
    refine o_lushr X71 hx (hb hby at_58) (v := (p0.toUInt64 >>> (40 : UInt64)).toInt64) (congrArg (fun q : UInt64 => (p0.toUInt64 >>> q).toInt64) (show ((40 : Int32) &&& 0x3f).toInt64.toUInt64 = 40 by decide)) (n := 59) rfl ?_
    refine o_l2i X71 hx (hb hby at_59) (v := ((p0.toUInt64 >>> (40 : UInt64)).toInt64).toInt32) rfl (n := 60) rfl ?_
    refine o_i2b X71 hx (hb hby at_60) (v := (((p0.toUInt64 >>> (40 : UInt64)).toInt64).toInt32).toInt8.toInt32) rfl (n := 61) rfl ?_
    refine o_bastore X71 hx hZ e71 V71 (2) (by decide) (by decide) (Nat.le_of_ble_eq_true rfl) (w := (.int ((((p0.toUInt64 >>> (40 : UInt64)).toInt64).toInt32).toInt8.toInt32))) (congrArg Value.int (o_nar8 _)) (vs' := [(.int ((((p0.toUInt64 >>> (56 : UInt64)).toInt64).toInt32).toInt8.toInt32)), (.int ((((p0.toUInt64 >>> (48 : UInt64)).toInt64).toInt32).toInt8.toInt32)), (.int ((((p0.toUInt64 >>> (40 : UInt64)).toInt64).toInt32).toInt8.toInt32)), (.int (0 : Int32)), (.int (0 : Int32)), (.int (0 : Int32))]) rfl (hb hby at_61) (n := 62) rfl ?_
    intro T73 h73 X73 e73 W73 V73
    have zz73 : n0 ≤ h73.size := Nat.le_trans zz71 (Nat.le_of_eq W73.size.symm)
    have N74 := Fr.snoc X73 N72 gg67
    refine o_iload X73 hx (hb hby at_62) (v := (6 : Int32)) rfl (n := 64) rfl ?_
    refine o_iconst X73 hx (hb hby at_64) (v := (3 : Int32)) rfl (n := 65) rfl ?_
    refine o_icmpN X73 hx (hb hby at_65) (XT.ii_le_f (by decide)) (n := 68) rfl ?_
    refine o_aload X73 hx (hb hby at_68) (v := (.ref b67)) rfl rfl (n := 70) rfl ?_
    refine o_iconst X73 hx (hb hby at_70) (v := (3 : Int32)) rfl (n := 71) rfl ?_
    refine o_lloadN X73 hx (hb hby at_71) (v := p0) rfl (n := 72) rfl ?_
    refine o_bipush X73 hx (hb hby at_72) (v := (32 : Int32)) rfl (n := 74) rfl ?_
    refine o_lushr X73 hx (hb hby at_74) (v := (p0.toUInt64 >>> (32 : UInt64)).toInt64) (congrArg (fun q : UInt64 => (p0.toUInt64 >>> q).toInt64) (show ((32 : Int32) &&& 0x3f).toInt64.toUInt64 = 32 by decide)) (n := 75) rfl ?_
    refine o_l2i X73 hx (hb hby at_75) (v := ((p0.toUInt64 >>> (32 : UInt64)).toInt64).toInt32) rfl (n := 76) rfl ?_
    refine o_i2b X73 hx (hb hby at_76) (v := (((p0.toUInt64 >>> (32 : UInt64)).toInt64).toInt32).toInt8.toInt32) rfl (n := 77) rfl ?_
    refine o_bastore X73 hx hZ e73 V73 (3) (by decide) (by decide) (Nat.le_of_ble_eq_true rfl) (w := (.int ((((p0.toUInt64 >>> (32 : UInt64)).toInt64).toInt32).toInt8.toInt32))) (congrArg Value.int (o_nar8 _)) (vs' := [(.int ((((p0.toUInt64 >>> (56 : UInt64)).toInt64).toInt32).toInt8.toInt32)), (.int ((((p0.toUInt64 >>> (48 : UInt64)).toInt64).toInt32).toInt8.toInt32)), (.int ((((p0.toUInt64 >>> (40 : UInt64)).toInt64).toInt32).toInt8.toInt32)), (.int ((((p0.toUInt64 >>> (32 : UInt64)).toInt64).toInt32).toInt8.toInt32)), (.int (0 : Int32)), (.int (0 : Int32))]) rfl (hb hby at_77) (n := 78) rfl ?_
    intro T75 h75 X75 e75 W75 V75
    have zz75 : n0 ≤ h75.size := Nat.le_trans zz73 (Nat.le_of_eq W75.size.symm)
    have N76 := Fr.snoc X75 N74 gg67
    refine o_iload X75 hx (hb hby at_78) (v := (6 : Int32)) rfl (n := 80) rfl ?_
    refine o_iconst X75 hx (hb hby at_80) (v := (4 : Int32)) rfl (n := 81) rfl ?_
    refine o_icmpN X75 hx (hb hby at_81) (XT.ii_le_f (by decide)) (n := 84) rfl ?_
    refine o_aload X75 hx (hb hby at_84) (v := (.ref b67)) rfl rfl (n := 86) rfl ?_
    refine o_iconst X75 hx (hb hby at_86) (v := (4 : Int32)) rfl (n := 87) rfl ?_
    refine o_lloadN X75 hx (hb hby at_87) (v := p0) rfl (n := 88) rfl ?_
    refine o_bipush X75 hx (hb hby at_88) (v := (24 : Int32)) rfl (n := 90) rfl ?_
    refine o_lushr X75 hx (hb hby at_90) (v := (p0.toUInt64 >>> (24 : UInt64)).toInt64) (congrArg (fun q : UInt64 => (p0.toUInt64 >>> q).toInt64) (show ((24 : Int32) &&& 0x3f).toInt64.toUInt64 = 24 by decide)) (n := 91) rfl ?_
    refine o_l2i X75 hx (hb hby at_91) (v := ((p0.toUInt64 >>> (24 : UInt64)).toInt64).toInt32) rfl (n := 92) rfl ?_
    refine o_i2b X75 hx (hb hby at_92) (v := (((p0.toUInt64 >>> (24 : UInt64)).toInt64).toInt32).toInt8.toInt32) rfl (n := 93) rfl ?_
    refine o_bastore X75 hx hZ e75 V75 (4) (by decide) (by decide) (Nat.le_of_ble_eq_true rfl) (w := (.int ((((p0.toUInt64 >>> (24 : UInt64)).toInt64).toInt32).toInt8.toInt32))) (congrArg Value.int (o_nar8 _)) (vs' := [(.int ((((p0.toUInt64 >>> (56 : UInt64)).toInt64).toInt32).toInt8.toInt32)), (.int ((((p0.toUInt64 >>> (48 : UInt64)).toInt64).toInt32).toInt8.toInt32)), (.int ((((p0.toUInt64 >>> (40 : UInt64)).toInt64).toInt32).toInt8.toInt32)), (.int ((((p0.toUInt64 >>> (32 : UInt64)).toInt64).toInt32).toInt8.toInt32)), (.int ((((p0.toUInt64 >>> (24 : UInt64)).toInt64).toInt32).toInt8.toInt32)), (.int (0 : Int32))]) rfl (hb hby at_93) (n := 94) rfl ?_
    intro T77 h77 X77 e77 W77 V77
    have zz77 : n0 ≤ h77.size := Nat.le_trans zz75 (Nat.le_of_eq W77.size.symm)
    have N78 := Fr.snoc X77 N76 gg67
    refine o_iload X77 hx (hb hby at_94) (v := (6 : Int32)) rfl (n := 96) rfl ?_
    refine o_iconst X77 hx (hb hby at_96) (v := (5 : Int32)) rfl (n := 97) rfl ?_
    refine o_icmpN X77 hx (hb hby at_97) (XT.ii_le_f (by decide)) (n := 100) rfl ?_
    refine o_aload X77 hx (hb hby at_100) (v := (.ref b67)) rfl rfl (n := 102) rfl ?_
    refine o_iconst X77 hx (hb hby at_102) (v := (5 : Int32)) rfl (n := 103) rfl ?_
    refine o_lloadN X77 hx (hb hby at_103) (v := p0) rfl (n := 104) rfl ?_
    refine o_bipush X77 hx (hb hby at_104) (v := (16 : Int32)) rfl (n := 106) rfl ?_
    refine o_lushr X77 hx (hb hby at_106) (v := (p0.toUInt64 >>> (16 : UInt64)).toInt64) (congrArg (fun q : UInt64 => (p0.toUInt64 >>> q).toInt64) (show ((16 : Int32) &&& 0x3f).toInt64.toUInt64 = 16 by decide)) (n := 107) rfl ?_
    refine o_l2i X77 hx (hb hby at_107) (v := ((p0.toUInt64 >>> (16 : UInt64)).toInt64).toInt32) rfl (n := 108) rfl ?_
    refine o_i2b X77 hx (hb hby at_108) (v := (((p0.toUInt64 >>> (16 : UInt64)).toInt64).toInt32).toInt8.toInt32) rfl (n := 109) rfl ?_
    refine o_bastore X77 hx hZ e77 V77 (5) (by decide) (by decide) (Nat.le_of_ble_eq_true rfl) (w := (.int ((((p0.toUInt64 >>> (16 : UInt64)).toInt64).toInt32).toInt8.toInt32))) (congrArg Value.int (o_nar8 _)) (vs' := [(.int ((((p0.toUInt64 >>> (56 : UInt64)).toInt64).toInt32).toInt8.toInt32)), (.int ((((p0.toUInt64 >>> (48 : UInt64)).toInt64).toInt32).toInt8.toInt32)), (.int ((((p0.toUInt64 >>> (40 : UInt64)).toInt64).toInt32).toInt8.toInt32)), (.int ((((p0.toUInt64 >>> (32 : UInt64)).toInt64).toInt32).toInt8.toInt32)), (.int ((((p0.toUInt64 >>> (24 : UInt64)).toInt64).toInt32).toInt8.toInt32)), (.int ((((p0.toUInt64 >>> (16 : UInt64)).toInt64).toInt32).toInt8.toInt32))]) rfl (hb hby at_109) (n := 110) rfl ?_
    intro T79 h79 X79 e79 W79 V79
    have zz79 : n0 ≤ h79.size := Nat.le_trans zz77 (Nat.le_of_eq W79.size.symm)
    have N80 := Fr.snoc X79 N78 gg67
    refine o_iload X79 hx (hb hby at_110) (v := (6 : Int32)) rfl (n := 112) rfl ?_
    refine o_bipush X79 hx (hb hby at_112) (v := (6 : Int32)) rfl (n := 114) rfl ?_
    refine o_icmpY X79 hx (hb hby at_114) (XT.ii_le_t (by decide)) (by decide) (n := 128) (by decide) ?_
    refine o_iload X79 hx (hb hby at_128) (v := (6 : Int32)) rfl (n := 130) rfl ?_
    refine o_bipush X79 hx (hb hby at_130) (v := (7 : Int32)) rfl (n := 132) rfl ?_
    refine o_icmpY X79 hx (hb hby at_132) (XT.ii_le_t (by decide)) (by decide) (n := 143) (by decide) ?_
    refine o_iload X79 hx (hb hby at_143) (v := (6 : Int32)) rfl (n := 145) rfl ?_
    refine o_bipush X79 hx (hb hby at_145) (v := (8 : Int32)) rfl (n := 147) rfl ?_
    refine o_icmpY X79 hx (hb hby at_147) (XT.ii_le_t (by decide)) (by decide) (n := 157) (by decide) ?_
    refine o_iload X79 hx (hb hby at_157) (v := (6 : Int32)) rfl (n := 159) rfl ?_
    refine o_bipush X79 hx (hb hby at_159) (v := (9 : Int32)) rfl (n := 161) rfl ?_
    refine o_icmpY X79 hx (hb hby at_161) (XT.ii_le_t (by decide)) (by decide) (n := 174) (by decide) ?_
    refine o_aload X79 hx (hb hby at_174) (v := (.ref b67)) rfl rfl (n := 176) rfl ?_
    refine o_callS X79 hx hZ hown (hw _ (List.mem_of_getElem? (i := 2) rfl)) (hw _ (List.mem_of_getElem? (i := 3) rfl)) (hw _ (List.mem_of_getElem? (i := 4) rfl)) (hw _ (List.mem_of_getElem? (i := 5) rfl)) (by decide) e79 (argsL := [(.ref b67)]) (rest := []) (c_head_6 l Z a0 hw b67 k67 ((((p0.toUInt64 >>> (56 : UInt64)).toInt64).toInt32).toInt8.toInt32) ((((p0.toUInt64 >>> (48 : UInt64)).toInt64).toInt32).toInt8.toInt32) ((((p0.toUInt64 >>> (40 : UInt64)).toInt64).toInt32).toInt8.toInt32) ((((p0.toUInt64 >>> (32 : UInt64)).toInt64).toInt32).toInt8.toInt32) ((((p0.toUInt64 >>> (24 : UInt64)).toInt64).toInt32).toInt8.toInt32) ((((p0.toUInt64 >>> (16 : UInt64)).toInt64).toInt32).toInt8.toInt32) h79 V79) 0 (by decide) (by decide) (by decide) (by decide) (by rw [hml]; rfl) (lenOf o_pd0 rfl) rfl (Nat.le_of_eq rfl) (hb hby at_176) (n := 179) rfl ?_
    intro v81 T81 L81 X81 q81
    obtain ⟨rfl, e81, rfl⟩ := q81
    have N82 := Fr.app N80 (Fr.nil n0)
    show Goes p e below s _ _ _ (T81.setTop (mkF m 179 #[.val (.long p0), .second, .val (.int p1), .val (.int p2), .val (.int (6 : Int32)), .val (.ref b67), .unset, .unset] [(.long (o_st (o_st (o_st (o_st (o_st (o_st (o_st (o_st (0 : Int64) (((((p0.toUInt64 >>> (56 : UInt64)).toInt64).toInt32).toInt8.toInt32) &&& (255 : Int32))) (((((p0.toUInt64 >>> (48 : UInt64)).toInt64).toInt32).toInt8.toInt32) &&& (255 : Int32))) (((((p0.toUInt64 >>> (40 : UInt64)).toInt64).toInt32).toInt8.toInt32) &&& (255 : Int32))) (((((p0.toUInt64 >>> (32 : UInt64)).toInt64).toInt32).toInt8.toInt32) &&& (255 : Int32))) (((((p0.toUInt64 >>> (24 : UInt64)).toInt64).toInt32).toInt8.toInt32) &&& (255 : Int32))) (((((p0.toUInt64 >>> (16 : UInt64)).toInt64).toInt32).toInt8.toInt32) &&& (255 : Int32))) (0 : Int32)) (0 : Int32)))]))
    refine o_lstore X81 hx (hb hby at_179) (Ls' := #[.val (.long p0), .second, .val (.int p1), .val (.int p2), .val (.int (6 : Int32)), .val (.ref b67), .val (.long (o_st (o_st (o_st (o_st (o_st (o_st (o_st (o_st (0 : Int64) (((((p0.toUInt64 >>> (56 : UInt64)).toInt64).toInt32).toInt8.toInt32) &&& (255 : Int32))) (((((p0.toUInt64 >>> (48 : UInt64)).toInt64).toInt32).toInt8.toInt32) &&& (255 : Int32))) (((((p0.toUInt64 >>> (40 : UInt64)).toInt64).toInt32).toInt8.toInt32) &&& (255 : Int32))) (((((p0.toUInt64 >>> (32 : UInt64)).toInt64).toInt32).toInt8.toInt32) &&& (255 : Int32))) (((((p0.toUInt64 >>> (24 : UInt64)).toInt64).toInt32).toInt8.toInt32) &&& (255 : Int32))) (((((p0.toUInt64 >>> (16 : UInt64)).toInt64).toInt32).toInt8.toInt32) &&& (255 : Int32))) (0 : Int32)) (0 : Int32))), .second]) rfl (n := 181) rfl ?_
    generalize h_g : (o_st (o_st (o_st (o_st (o_st (o_st (o_st (o_st (0 : Int64) (((((p0.toUInt64 >>> (56 : UInt64)).toInt64).toInt32).toInt8.toInt32) &&& (255 : Int32))) (((((p0.toUInt64 >>> (48 : UInt64)).toInt64).toInt32).toInt8.toInt32) &&& (255 : Int32))) (((((p0.toUInt64 >>> (40 : UInt64)).toInt64).toInt32).toInt8.toInt32) &&& (255 : Int32))) (((((p0.toUInt64 >>> (32 : UInt64)).toInt64).toInt32).toInt8.toInt32) &&& (255 : Int32))) (((((p0.toUInt64 >>> (24 : UInt64)).toInt64).toInt32).toInt8.toInt32) &&& (255 : Int32))) (((((p0.toUInt64 >>> (16 : UInt64)).toInt64).toInt32).toInt8.toInt32) &&& (255 : Int32))) (0 : Int32)) (0 : Int32)) = g
    refine o_lload X81 hx (hb hby at_181) (v := g) rfl (n := 183) rfl ?_
    refine o_lloadN X81 hx (hb hby at_183) (v := p0) rfl (n := 184) rfl ?_
    refine o_iload X81 hx (hb hby at_184) (v := (6 : Int32)) rfl (n := 186) rfl ?_
    refine o_callS X81 hx hZ hown (hw _ (List.mem_of_getElem? (i := 6) rfl)) (hw _ (List.mem_of_getElem? (i := 7) rfl)) (hw _ (List.mem_of_getElem? (i := 8) rfl)) (hw _ (List.mem_of_getElem? (i := 9) rfl)) (by decide) e81 (argsL := [(.long p0), (.int (6 : Int32))]) (rest := [(.long g)]) (c_exp_6 l Z a0 hw p0 h79) 2 (by decide) (by decide) (by decide) (by decide) (by rw [hml]; rfl) (lenOf o_pd1 rfl) rfl (Nat.le_of_eq rfl) (hb hby at_186) (n := 189) rfl ?_
    intro v83 T83 L83 X83 q83
    obtain ⟨rfl, e83, rfl⟩ := q83
    have N84 := Fr.app N82 (Fr.nil n0)
    show Goes p e below s _ _ _ (T83.setTop (mkF m 189 #[.val (.long p0), .second, .val (.int p1), .val (.int p2), .val (.int (6 : Int32)), .val (.ref b67), .val (.long g), .second] [(.long (p0 &&& (-65536 : Int64))), (.long g)]))
    refine o_lcmp X83 hx (hb hby at_189) (n := 190) rfl ?_
    refine o_ifN X83 hx (hb hby at_190) (XT.ll_ne_f (h_g ▸ o_eq_6 p0)) (n := 193) rfl ?_
    refine o_iconst X83 hx (hb hby at_193) (v := (1 : Int32)) rfl (n := 194) rfl ?_
    refine o_goto X83 hx (hb hby at_194) (by decide) (n := 198) (by decide) ?_
    exact o_nreturn X83 hx hret hlk (t := .boolean) (by simp) (hb hby at_198) (by decide) (by decide) e83 ⟨rfl, N84⟩
  · refine o_iloadN X0 hx (hb hby at_0) (v := p2) rfl (n := 1) rfl ?_
    refine o_ldc X0 hx hZ (v := (2147483647 : Int32)) hown (hw _ (List.mem_of_getElem? (i := 0) rfl)) (hb hby at_1) (n := 3) rfl ?_
    refine o_iand X0 hx (hb hby at_3) (v := (p2 &&& (2147483647 : Int32))) rfl (n := 4) rfl ?_
    refine o_bipush X0 hx (hb hby at_4) (v := (11 : Int32)) rfl (n := 6) rfl ?_
    refine o_irem X0 hx (hb hby at_6) (by decide) (v := (7 : Int32)) q (n := 7) rfl ?_
    refine o_istore X0 hx (hb hby at_7) (Ls' := #[.val (.long p0), .second, .val (.int p1), .val (.int p2), .val (.int (7 : Int32)), .unset, .unset, .unset]) rfl (n := 9) rfl ?_
    refine o_iload X0 hx (hb hby at_9) (v := (7 : Int32)) rfl (n := 11) rfl ?_
    refine o_newarray X0 hx hZ (aty := .byte) (hw _ (List.mem_of_getElem? (i := 1) rfl)) e0 (hb hby at_11) (by decide) 7 (by decide) (by decide) (by decide) (by decide) (n := 13) rfl ?_
    intro T85 h85 b85 k85 X85 e85 g85 E85 V85
    have gg85 : n0 ≤ b85 := Nat.le_trans Z0 (Nat.le_of_eq g85.symm)
    have zz85 : n0 ≤ h85.size := Nat.le_trans Z0 E85.1
    have f86 : Arv Z h85 b85 k85 .byte (7 : Int32) [(.int (0 : Int32)), (.int (0 : Int32)), (.int (0 : Int32)), (.int (0 : Int32)), (.int (0 : Int32)), (.int (0 : Int32)), (.int (0 : Int32))] (.int (0 : Int32)) := V85.pad (pad_rep [] (.int (0 : Int32)) 7)
    refine o_astore X85 hx (hb hby at_13) rfl (Ls' := #[.val (.long p0), .second, .val (.int p1), .val (.int p2), .val (.int (7 : Int32)), .val (.ref b85), .unset, .unset]) rfl (n := 15) rfl ?_
    refine o_iload X85 hx (hb hby at_15) (v := (7 : Int32)) rfl (n := 17) rfl ?_
    refine o_ifN X85 hx (hb hby at_17) (XT.i0_le_f (by decide)) (n := 20) rfl ?_
    refine o_aload X85 hx (hb hby at_20) (v := (.ref b85)) rfl rfl (n := 22) rfl ?_
    refine o_iconst X85 hx (hb hby at_22) (v := (0 : Int32)) rfl (n := 23) rfl ?_
    refine o_lloadN X85 hx (hb hby at_23) (v := p0) rfl (n := 24) rfl ?_
    refine o_bipush X85 hx (hb hby at_24) (v := (56 : Int32)) rfl (n := 26) rfl ?_
    refine o_lushr X85 hx (hb hby at_26) (v := (p0.toUInt64 >>> (56 : UInt64)).toInt64) (congrArg (fun q : UInt64 => (p0.toUInt64 >>> q).toInt64) (show ((56 : Int32) &&& 0x3f).toInt64.toUInt64 = 56 by decide)) (n := 27) rfl ?_
    refine o_l2i X85 hx (hb hby at_27) (v := ((p0.toUInt64 >>> (56 : UInt64)).toInt64).toInt32) rfl (n := 28) rfl ?_
    refine o_i2b X85 hx (hb hby at_28) (v := (((p0.toUInt64 >>> (56 : UInt64)).toInt64).toInt32).toInt8.toInt32) rfl (n := 29) rfl ?_
    refine o_bastore X85 hx hZ e85 f86 (0) (by decide) (by decide) (Nat.le_of_ble_eq_true rfl) (w := (.int ((((p0.toUInt64 >>> (56 : UInt64)).toInt64).toInt32).toInt8.toInt32))) (congrArg Value.int (o_nar8 _)) (vs' := [(.int ((((p0.toUInt64 >>> (56 : UInt64)).toInt64).toInt32).toInt8.toInt32)), (.int (0 : Int32)), (.int (0 : Int32)), (.int (0 : Int32)), (.int (0 : Int32)), (.int (0 : Int32)), (.int (0 : Int32))]) rfl (hb hby at_29) (n := 30) rfl ?_
    intro T87 h87 X87 e87 W87 V87
    have zz87 : n0 ≤ h87.size := Nat.le_trans zz85 (Nat.le_of_eq W87.size.symm)
    have N88 := Fr.snoc X87 N0 gg85
    refine o_iload X87 hx (hb hby at_30) (v := (7 : Int32)) rfl (n := 32) rfl ?_
    refine o_iconst X87 hx (hb hby at_32) (v := (1 : Int32)) rfl (n := 33) rfl ?_
    refine o_icmpN X87 hx (hb hby at_33) (XT.ii_le_f (by decide)) (n := 36) rfl ?_
    refine o_aload X87 hx (hb hby at_36) (v := (.ref b85)) rfl rfl (n := 38) rfl ?_
    refine o_iconst X87 hx (hb hby at_38) (v := (1 : Int32)) rfl (n := 39) rfl ?_
    refine o_lloadN X87 hx (hb hby at_39) (v := p0) rfl (n := 40) rfl ?_
    refine o_bipush X87 hx (hb hby at_40) (v := (48 : Int32)) rfl (n := 42) rfl ?_
    refine o_lushr X87 hx (hb hby at_42) (v := (p0.toUInt64 >>> (48 : UInt64)).toInt64) (congrArg (fun q : UInt64 => (p0.toUInt64 >>> q).toInt64) (show ((48 : Int32) &&& 0x3f).toInt64.toUInt64 = 48 by decide)) (n := 43) rfl ?_
    refine o_l2i X87 hx (hb hby at_43) (v := ((p0.toUInt64 >>> (48 : UInt64)).toInt64).toInt32) rfl (n := 44) rfl ?_
    refine o_i2b X87 hx (hb hby at_44) (v := (((p0.toUInt64 >>> (48 : UInt64)).toInt64).toInt32).toInt8.toInt32) rfl (n := 45) rfl ?_
    refine o_bastore X87 hx hZ e87 V87 (1) (by decide) (by decide) (Nat.le_of_ble_eq_true rfl) (w := (.int ((((p0.toUInt64 >>> (48 : UInt64)).toInt64).toInt32).toInt8.toInt32))) (congrArg Value.int (o_nar8 _)) (vs' := [(.int ((((p0.toUInt64 >>> (56 : UInt64)).toInt64).toInt32).toInt8.toInt32)), (.int ((((p0.toUInt64 >>> (48 : UInt64)).toInt64).toInt32).toInt8.toInt32)), (.int (0 : Int32)), (.int (0 : Int32)), (.int (0 : Int32)), (.int (0 : Int32)), (.int (0 : Int32))]) rfl (hb hby at_45) (n := 46) rfl ?_
    intro T89 h89 X89 e89 W89 V89
    have zz89 : n0 ≤ h89.size := Nat.le_trans zz87 (Nat.le_of_eq W89.size.symm)
    have N90 := Fr.snoc X89 N88 gg85
    refine o_iload X89 hx (hb hby at_46) (v := (7 : Int32)) rfl (n := 48) rfl ?_
    refine o_iconst X89 hx (hb hby at_48) (v := (2 : Int32)) rfl (n := 49) rfl ?_
    refine o_icmpN X89 hx (hb hby at_49) (XT.ii_le_f (by decide)) (n := 52) rfl ?_
    refine o_aload X89 hx (hb hby at_52) (v := (.ref b85)) rfl rfl (n := 54) rfl ?_
    refine o_iconst X89 hx (hb hby at_54) (v := (2 : Int32)) rfl (n := 55) rfl ?_
    refine o_lloadN X89 hx (hb hby at_55) (v := p0) rfl (n := 56) rfl ?_
    refine o_bipush X89 hx (hb hby at_56) (v := (40 : Int32)) rfl (n := 58) rfl ?_
    refine o_lushr X89 hx (hb hby at_58) (v := (p0.toUInt64 >>> (40 : UInt64)).toInt64) (congrArg (fun q : UInt64 => (p0.toUInt64 >>> q).toInt64) (show ((40 : Int32) &&& 0x3f).toInt64.toUInt64 = 40 by decide)) (n := 59) rfl ?_
    refine o_l2i X89 hx (hb hby at_59) (v := ((p0.toUInt64 >>> (40 : UInt64)).toInt64).toInt32) rfl (n := 60) rfl ?_
    refine o_i2b X89 hx (hb hby at_60) (v := (((p0.toUInt64 >>> (40 : UInt64)).toInt64).toInt32).toInt8.toInt32) rfl (n := 61) rfl ?_
    refine o_bastore X89 hx hZ e89 V89 (2) (by decide) (by decide) (Nat.le_of_ble_eq_true rfl) (w := (.int ((((p0.toUInt64 >>> (40 : UInt64)).toInt64).toInt32).toInt8.toInt32))) (congrArg Value.int (o_nar8 _)) (vs' := [(.int ((((p0.toUInt64 >>> (56 : UInt64)).toInt64).toInt32).toInt8.toInt32)), (.int ((((p0.toUInt64 >>> (48 : UInt64)).toInt64).toInt32).toInt8.toInt32)), (.int ((((p0.toUInt64 >>> (40 : UInt64)).toInt64).toInt32).toInt8.toInt32)), (.int (0 : Int32)), (.int (0 : Int32)), (.int (0 : Int32)), (.int (0 : Int32))]) rfl (hb hby at_61) (n := 62) rfl ?_
    intro T91 h91 X91 e91 W91 V91
    have zz91 : n0 ≤ h91.size := Nat.le_trans zz89 (Nat.le_of_eq W91.size.symm)
    have N92 := Fr.snoc X91 N90 gg85
    refine o_iload X91 hx (hb hby at_62) (v := (7 : Int32)) rfl (n := 64) rfl ?_
    refine o_iconst X91 hx (hb hby at_64) (v := (3 : Int32)) rfl (n := 65) rfl ?_
    refine o_icmpN X91 hx (hb hby at_65) (XT.ii_le_f (by decide)) (n := 68) rfl ?_
    refine o_aload X91 hx (hb hby at_68) (v := (.ref b85)) rfl rfl (n := 70) rfl ?_
    refine o_iconst X91 hx (hb hby at_70) (v := (3 : Int32)) rfl (n := 71) rfl ?_
    refine o_lloadN X91 hx (hb hby at_71) (v := p0) rfl (n := 72) rfl ?_
    refine o_bipush X91 hx (hb hby at_72) (v := (32 : Int32)) rfl (n := 74) rfl ?_
    refine o_lushr X91 hx (hb hby at_74) (v := (p0.toUInt64 >>> (32 : UInt64)).toInt64) (congrArg (fun q : UInt64 => (p0.toUInt64 >>> q).toInt64) (show ((32 : Int32) &&& 0x3f).toInt64.toUInt64 = 32 by decide)) (n := 75) rfl ?_
    refine o_l2i X91 hx (hb hby at_75) (v := ((p0.toUInt64 >>> (32 : UInt64)).toInt64).toInt32) rfl (n := 76) rfl ?_
    refine o_i2b X91 hx (hb hby at_76) (v := (((p0.toUInt64 >>> (32 : UInt64)).toInt64).toInt32).toInt8.toInt32) rfl (n := 77) rfl ?_
    refine o_bastore X91 hx hZ e91 V91 (3) (by decide) (by decide) (Nat.le_of_ble_eq_true rfl) (w := (.int ((((p0.toUInt64 >>> (32 : UInt64)).toInt64).toInt32).toInt8.toInt32))) (congrArg Value.int (o_nar8 _)) (vs' := [(.int ((((p0.toUInt64 >>> (56 : UInt64)).toInt64).toInt32).toInt8.toInt32)), (.int ((((p0.toUInt64 >>> (48 : UInt64)).toInt64).toInt32).toInt8.toInt32)), (.int ((((p0.toUInt64 >>> (40 : UInt64)).toInt64).toInt32).toInt8.toInt32)), (.int ((((p0.toUInt64 >>> (32 : UInt64)).toInt64).toInt32).toInt8.toInt32)), (.int (0 : Int32)), (.int (0 : Int32)), (.int (0 : Int32))]) rfl (hb hby at_77) (n := 78) rfl ?_
    intro T93 h93 X93 e93 W93 V93
    have zz93 : n0 ≤ h93.size := Nat.le_trans zz91 (Nat.le_of_eq W93.size.symm)
    have N94 := Fr.snoc X93 N92 gg85
    refine o_iload X93 hx (hb hby at_78) (v := (7 : Int32)) rfl (n := 80) rfl ?_
    refine o_iconst X93 hx (hb hby at_80) (v := (4 : Int32)) rfl (n := 81) rfl ?_
    refine o_icmpN X93 hx (hb hby at_81) (XT.ii_le_f (by decide)) (n := 84) rfl ?_
    refine o_aload X93 hx (hb hby at_84) (v := (.ref b85)) rfl rfl (n := 86) rfl ?_
    refine o_iconst X93 hx (hb hby at_86) (v := (4 : Int32)) rfl (n := 87) rfl ?_
    refine o_lloadN X93 hx (hb hby at_87) (v := p0) rfl (n := 88) rfl ?_
    refine o_bipush X93 hx (hb hby at_88) (v := (24 : Int32)) rfl (n := 90) rfl ?_
    refine o_lushr X93 hx (hb hby at_90) (v := (p0.toUInt64 >>> (24 : UInt64)).toInt64) (congrArg (fun q : UInt64 => (p0.toUInt64 >>> q).toInt64) (show ((24 : Int32) &&& 0x3f).toInt64.toUInt64 = 24 by decide)) (n := 91) rfl ?_
    refine o_l2i X93 hx (hb hby at_91) (v := ((p0.toUInt64 >>> (24 : UInt64)).toInt64).toInt32) rfl (n := 92) rfl ?_
    refine o_i2b X93 hx (hb hby at_92) (v := (((p0.toUInt64 >>> (24 : UInt64)).toInt64).toInt32).toInt8.toInt32) rfl (n := 93) rfl ?_
    refine o_bastore X93 hx hZ e93 V93 (4) (by decide) (by decide) (Nat.le_of_ble_eq_true rfl) (w := (.int ((((p0.toUInt64 >>> (24 : UInt64)).toInt64).toInt32).toInt8.toInt32))) (congrArg Value.int (o_nar8 _)) (vs' := [(.int ((((p0.toUInt64 >>> (56 : UInt64)).toInt64).toInt32).toInt8.toInt32)), (.int ((((p0.toUInt64 >>> (48 : UInt64)).toInt64).toInt32).toInt8.toInt32)), (.int ((((p0.toUInt64 >>> (40 : UInt64)).toInt64).toInt32).toInt8.toInt32)), (.int ((((p0.toUInt64 >>> (32 : UInt64)).toInt64).toInt32).toInt8.toInt32)), (.int ((((p0.toUInt64 >>> (24 : UInt64)).toInt64).toInt32).toInt8.toInt32)), (.int (0 : Int32)), (.int (0 : Int32))]) rfl (hb hby at_93) (n := 94) rfl ?_
    intro T95 h95 X95 e95 W95 V95
    have zz95 : n0 ≤ h95.size := Nat.le_trans zz93 (Nat.le_of_eq W95.size.symm)
    have N96 := Fr.snoc X95 N94 gg85
    refine o_iload X95 hx (hb hby at_94) (v := (7 : Int32)) rfl (n := 96) rfl ?_
    refine o_iconst X95 hx (hb hby at_96) (v := (5 : Int32)) rfl (n := 97) rfl ?_
    refine o_icmpN X95 hx (hb hby at_97) (XT.ii_le_f (by decide)) (n := 100) rfl ?_
    refine o_aload X95 hx (hb hby at_100) (v := (.ref b85)) rfl rfl (n := 102) rfl ?_
    refine o_iconst X95 hx (hb hby at_102) (v := (5 : Int32)) rfl (n := 103) rfl ?_
    refine o_lloadN X95 hx (hb hby at_103) (v := p0) rfl (n := 104) rfl ?_
    refine o_bipush X95 hx (hb hby at_104) (v := (16 : Int32)) rfl (n := 106) rfl ?_
    refine o_lushr X95 hx (hb hby at_106) (v := (p0.toUInt64 >>> (16 : UInt64)).toInt64) (congrArg (fun q : UInt64 => (p0.toUInt64 >>> q).toInt64) (show ((16 : Int32) &&& 0x3f).toInt64.toUInt64 = 16 by decide)) (n := 107) rfl ?_
    refine o_l2i X95 hx (hb hby at_107) (v := ((p0.toUInt64 >>> (16 : UInt64)).toInt64).toInt32) rfl (n := 108) rfl ?_
    refine o_i2b X95 hx (hb hby at_108) (v := (((p0.toUInt64 >>> (16 : UInt64)).toInt64).toInt32).toInt8.toInt32) rfl (n := 109) rfl ?_
    refine o_bastore X95 hx hZ e95 V95 (5) (by decide) (by decide) (Nat.le_of_ble_eq_true rfl) (w := (.int ((((p0.toUInt64 >>> (16 : UInt64)).toInt64).toInt32).toInt8.toInt32))) (congrArg Value.int (o_nar8 _)) (vs' := [(.int ((((p0.toUInt64 >>> (56 : UInt64)).toInt64).toInt32).toInt8.toInt32)), (.int ((((p0.toUInt64 >>> (48 : UInt64)).toInt64).toInt32).toInt8.toInt32)), (.int ((((p0.toUInt64 >>> (40 : UInt64)).toInt64).toInt32).toInt8.toInt32)), (.int ((((p0.toUInt64 >>> (32 : UInt64)).toInt64).toInt32).toInt8.toInt32)), (.int ((((p0.toUInt64 >>> (24 : UInt64)).toInt64).toInt32).toInt8.toInt32)), (.int ((((p0.toUInt64 >>> (16 : UInt64)).toInt64).toInt32).toInt8.toInt32)), (.int (0 : Int32))]) rfl (hb hby at_109) (n := 110) rfl ?_
    intro T97 h97 X97 e97 W97 V97
    have zz97 : n0 ≤ h97.size := Nat.le_trans zz95 (Nat.le_of_eq W97.size.symm)
    have N98 := Fr.snoc X97 N96 gg85
    refine o_iload X97 hx (hb hby at_110) (v := (7 : Int32)) rfl (n := 112) rfl ?_
    refine o_bipush X97 hx (hb hby at_112) (v := (6 : Int32)) rfl (n := 114) rfl ?_
    refine o_icmpN X97 hx (hb hby at_114) (XT.ii_le_f (by decide)) (n := 117) rfl ?_
    refine o_aload X97 hx (hb hby at_117) (v := (.ref b85)) rfl rfl (n := 119) rfl ?_
    refine o_bipush X97 hx (hb hby at_119) (v := (6 : Int32)) rfl (n := 121) rfl ?_
    refine o_lloadN X97 hx (hb hby at_121) (v := p0) rfl (n := 122) rfl ?_
    refine o_bipush X97 hx (hb hby at_122) (v := (8 : Int32)) rfl (n := 124) rfl ?_
    refine o_lushr X97 hx (hb hby at_124) (v := (p0.toUInt64 >>> (8 : UInt64)).toInt64) (congrArg (fun q : UInt64 => (p0.toUInt64 >>> q).toInt64) (show ((8 : Int32) &&& 0x3f).toInt64.toUInt64 = 8 by decide)) (n := 125) rfl ?_
    refine o_l2i X97 hx (hb hby at_125) (v := ((p0.toUInt64 >>> (8 : UInt64)).toInt64).toInt32) rfl (n := 126) rfl ?_
    refine o_i2b X97 hx (hb hby at_126) (v := (((p0.toUInt64 >>> (8 : UInt64)).toInt64).toInt32).toInt8.toInt32) rfl (n := 127) rfl ?_
    refine o_bastore X97 hx hZ e97 V97 (6) (by decide) (by decide) (Nat.le_of_ble_eq_true rfl) (w := (.int ((((p0.toUInt64 >>> (8 : UInt64)).toInt64).toInt32).toInt8.toInt32))) (congrArg Value.int (o_nar8 _)) (vs' := [(.int ((((p0.toUInt64 >>> (56 : UInt64)).toInt64).toInt32).toInt8.toInt32)), (.int ((((p0.toUInt64 >>> (48 : UInt64)).toInt64).toInt32).toInt8.toInt32)), (.int ((((p0.toUInt64 >>> (40 : UInt64)).toInt64).toInt32).toInt8.toInt32)), (.int ((((p0.toUInt64 >>> (32 : UInt64)).toInt64).toInt32).toInt8.toInt32)), (.int ((((p0.toUInt64 >>> (24 : UInt64)).toInt64).toInt32).toInt8.toInt32)), (.int ((((p0.toUInt64 >>> (16 : UInt64)).toInt64).toInt32).toInt8.toInt32)), (.int ((((p0.toUInt64 >>> (8 : UInt64)).toInt64).toInt32).toInt8.toInt32))]) rfl (hb hby at_127) (n := 128) rfl ?_
    intro T99 h99 X99 e99 W99 V99
    have zz99 : n0 ≤ h99.size := Nat.le_trans zz97 (Nat.le_of_eq W99.size.symm)
    have N100 := Fr.snoc X99 N98 gg85
    refine o_iload X99 hx (hb hby at_128) (v := (7 : Int32)) rfl (n := 130) rfl ?_
    refine o_bipush X99 hx (hb hby at_130) (v := (7 : Int32)) rfl (n := 132) rfl ?_
    refine o_icmpY X99 hx (hb hby at_132) (XT.ii_le_t (by decide)) (by decide) (n := 143) (by decide) ?_
    refine o_iload X99 hx (hb hby at_143) (v := (7 : Int32)) rfl (n := 145) rfl ?_
    refine o_bipush X99 hx (hb hby at_145) (v := (8 : Int32)) rfl (n := 147) rfl ?_
    refine o_icmpY X99 hx (hb hby at_147) (XT.ii_le_t (by decide)) (by decide) (n := 157) (by decide) ?_
    refine o_iload X99 hx (hb hby at_157) (v := (7 : Int32)) rfl (n := 159) rfl ?_
    refine o_bipush X99 hx (hb hby at_159) (v := (9 : Int32)) rfl (n := 161) rfl ?_
    refine o_icmpY X99 hx (hb hby at_161) (XT.ii_le_t (by decide)) (by decide) (n := 174) (by decide) ?_
    refine o_aload X99 hx (hb hby at_174) (v := (.ref b85)) rfl rfl (n := 176) rfl ?_
    refine o_callS X99 hx hZ hown (hw _ (List.mem_of_getElem? (i := 2) rfl)) (hw _ (List.mem_of_getElem? (i := 3) rfl)) (hw _ (List.mem_of_getElem? (i := 4) rfl)) (hw _ (List.mem_of_getElem? (i := 5) rfl)) (by decide) e99 (argsL := [(.ref b85)]) (rest := []) (c_head_7 l Z a0 hw b85 k85 ((((p0.toUInt64 >>> (56 : UInt64)).toInt64).toInt32).toInt8.toInt32) ((((p0.toUInt64 >>> (48 : UInt64)).toInt64).toInt32).toInt8.toInt32) ((((p0.toUInt64 >>> (40 : UInt64)).toInt64).toInt32).toInt8.toInt32) ((((p0.toUInt64 >>> (32 : UInt64)).toInt64).toInt32).toInt8.toInt32) ((((p0.toUInt64 >>> (24 : UInt64)).toInt64).toInt32).toInt8.toInt32) ((((p0.toUInt64 >>> (16 : UInt64)).toInt64).toInt32).toInt8.toInt32) ((((p0.toUInt64 >>> (8 : UInt64)).toInt64).toInt32).toInt8.toInt32) h99 V99) 0 (by decide) (by decide) (by decide) (by decide) (by rw [hml]; rfl) (lenOf o_pd0 rfl) rfl (Nat.le_of_eq rfl) (hb hby at_176) (n := 179) rfl ?_
    intro v101 T101 L101 X101 q101
    obtain ⟨rfl, e101, rfl⟩ := q101
    have N102 := Fr.app N100 (Fr.nil n0)
    show Goes p e below s _ _ _ (T101.setTop (mkF m 179 #[.val (.long p0), .second, .val (.int p1), .val (.int p2), .val (.int (7 : Int32)), .val (.ref b85), .unset, .unset] [(.long (o_st (o_st (o_st (o_st (o_st (o_st (o_st (o_st (0 : Int64) (((((p0.toUInt64 >>> (56 : UInt64)).toInt64).toInt32).toInt8.toInt32) &&& (255 : Int32))) (((((p0.toUInt64 >>> (48 : UInt64)).toInt64).toInt32).toInt8.toInt32) &&& (255 : Int32))) (((((p0.toUInt64 >>> (40 : UInt64)).toInt64).toInt32).toInt8.toInt32) &&& (255 : Int32))) (((((p0.toUInt64 >>> (32 : UInt64)).toInt64).toInt32).toInt8.toInt32) &&& (255 : Int32))) (((((p0.toUInt64 >>> (24 : UInt64)).toInt64).toInt32).toInt8.toInt32) &&& (255 : Int32))) (((((p0.toUInt64 >>> (16 : UInt64)).toInt64).toInt32).toInt8.toInt32) &&& (255 : Int32))) (((((p0.toUInt64 >>> (8 : UInt64)).toInt64).toInt32).toInt8.toInt32) &&& (255 : Int32))) (0 : Int32)))]))
    refine o_lstore X101 hx (hb hby at_179) (Ls' := #[.val (.long p0), .second, .val (.int p1), .val (.int p2), .val (.int (7 : Int32)), .val (.ref b85), .val (.long (o_st (o_st (o_st (o_st (o_st (o_st (o_st (o_st (0 : Int64) (((((p0.toUInt64 >>> (56 : UInt64)).toInt64).toInt32).toInt8.toInt32) &&& (255 : Int32))) (((((p0.toUInt64 >>> (48 : UInt64)).toInt64).toInt32).toInt8.toInt32) &&& (255 : Int32))) (((((p0.toUInt64 >>> (40 : UInt64)).toInt64).toInt32).toInt8.toInt32) &&& (255 : Int32))) (((((p0.toUInt64 >>> (32 : UInt64)).toInt64).toInt32).toInt8.toInt32) &&& (255 : Int32))) (((((p0.toUInt64 >>> (24 : UInt64)).toInt64).toInt32).toInt8.toInt32) &&& (255 : Int32))) (((((p0.toUInt64 >>> (16 : UInt64)).toInt64).toInt32).toInt8.toInt32) &&& (255 : Int32))) (((((p0.toUInt64 >>> (8 : UInt64)).toInt64).toInt32).toInt8.toInt32) &&& (255 : Int32))) (0 : Int32))), .second]) rfl (n := 181) rfl ?_
    generalize h_g : (o_st (o_st (o_st (o_st (o_st (o_st (o_st (o_st (0 : Int64) (((((p0.toUInt64 >>> (56 : UInt64)).toInt64).toInt32).toInt8.toInt32) &&& (255 : Int32))) (((((p0.toUInt64 >>> (48 : UInt64)).toInt64).toInt32).toInt8.toInt32) &&& (255 : Int32))) (((((p0.toUInt64 >>> (40 : UInt64)).toInt64).toInt32).toInt8.toInt32) &&& (255 : Int32))) (((((p0.toUInt64 >>> (32 : UInt64)).toInt64).toInt32).toInt8.toInt32) &&& (255 : Int32))) (((((p0.toUInt64 >>> (24 : UInt64)).toInt64).toInt32).toInt8.toInt32) &&& (255 : Int32))) (((((p0.toUInt64 >>> (16 : UInt64)).toInt64).toInt32).toInt8.toInt32) &&& (255 : Int32))) (((((p0.toUInt64 >>> (8 : UInt64)).toInt64).toInt32).toInt8.toInt32) &&& (255 : Int32))) (0 : Int32)) = g
    refine o_lload X101 hx (hb hby at_181) (v := g) rfl (n := 183) rfl ?_
    refine o_lloadN X101 hx (hb hby at_183) (v := p0) rfl (n := 184) rfl ?_
    refine o_iload X101 hx (hb hby at_184) (v := (7 : Int32)) rfl (n := 186) rfl ?_
    refine o_callS X101 hx hZ hown (hw _ (List.mem_of_getElem? (i := 6) rfl)) (hw _ (List.mem_of_getElem? (i := 7) rfl)) (hw _ (List.mem_of_getElem? (i := 8) rfl)) (hw _ (List.mem_of_getElem? (i := 9) rfl)) (by decide) e101 (argsL := [(.long p0), (.int (7 : Int32))]) (rest := [(.long g)]) (c_exp_7 l Z a0 hw p0 h99) 2 (by decide) (by decide) (by decide) (by decide) (by rw [hml]; rfl) (lenOf o_pd1 rfl) rfl (Nat.le_of_eq rfl) (hb hby at_186) (n := 189) rfl ?_
    intro v103 T103 L103 X103 q103
    obtain ⟨rfl, e103, rfl⟩ := q103
    have N104 := Fr.app N102 (Fr.nil n0)
    show Goes p e below s _ _ _ (T103.setTop (mkF m 189 #[.val (.long p0), .second, .val (.int p1), .val (.int p2), .val (.int (7 : Int32)), .val (.ref b85), .val (.long g), .second] [(.long (p0 &&& (-256 : Int64))), (.long g)]))
    refine o_lcmp X103 hx (hb hby at_189) (n := 190) rfl ?_
    refine o_ifN X103 hx (hb hby at_190) (XT.ll_ne_f (h_g ▸ o_eq_7 p0)) (n := 193) rfl ?_
    refine o_iconst X103 hx (hb hby at_193) (v := (1 : Int32)) rfl (n := 194) rfl ?_
    refine o_goto X103 hx (hb hby at_194) (by decide) (n := 198) (by decide) ?_
    exact o_nreturn X103 hx hret hlk (t := .boolean) (by simp) (hb hby at_198) (by decide) (by decide) e103 ⟨rfl, N104⟩
  · refine o_iloadN X0 hx (hb hby at_0) (v := p2) rfl (n := 1) rfl ?_
    refine o_ldc X0 hx hZ (v := (2147483647 : Int32)) hown (hw _ (List.mem_of_getElem? (i := 0) rfl)) (hb hby at_1) (n := 3) rfl ?_
    refine o_iand X0 hx (hb hby at_3) (v := (p2 &&& (2147483647 : Int32))) rfl (n := 4) rfl ?_
    refine o_bipush X0 hx (hb hby at_4) (v := (11 : Int32)) rfl (n := 6) rfl ?_
    refine o_irem X0 hx (hb hby at_6) (by decide) (v := (8 : Int32)) q (n := 7) rfl ?_
    refine o_istore X0 hx (hb hby at_7) (Ls' := #[.val (.long p0), .second, .val (.int p1), .val (.int p2), .val (.int (8 : Int32)), .unset, .unset, .unset]) rfl (n := 9) rfl ?_
    refine o_iload X0 hx (hb hby at_9) (v := (8 : Int32)) rfl (n := 11) rfl ?_
    refine o_newarray X0 hx hZ (aty := .byte) (hw _ (List.mem_of_getElem? (i := 1) rfl)) e0 (hb hby at_11) (by decide) 8 (by decide) (by decide) (by decide) (by decide) (n := 13) rfl ?_
    intro T105 h105 b105 k105 X105 e105 g105 E105 V105
    have gg105 : n0 ≤ b105 := Nat.le_trans Z0 (Nat.le_of_eq g105.symm)
    have zz105 : n0 ≤ h105.size := Nat.le_trans Z0 E105.1
    have f106 : Arv Z h105 b105 k105 .byte (8 : Int32) [(.int (0 : Int32)), (.int (0 : Int32)), (.int (0 : Int32)), (.int (0 : Int32)), (.int (0 : Int32)), (.int (0 : Int32)), (.int (0 : Int32)), (.int (0 : Int32))] (.int (0 : Int32)) := V105.pad (pad_rep [] (.int (0 : Int32)) 8)
    refine o_astore X105 hx (hb hby at_13) rfl (Ls' := #[.val (.long p0), .second, .val (.int p1), .val (.int p2), .val (.int (8 : Int32)), .val (.ref b105), .unset, .unset]) rfl (n := 15) rfl ?_
    refine o_iload X105 hx (hb hby at_15) (v := (8 : Int32)) rfl (n := 17) rfl ?_
    refine o_ifN X105 hx (hb hby at_17) (XT.i0_le_f (by decide)) (n := 20) rfl ?_
    refine o_aload X105 hx (hb hby at_20) (v := (.ref b105)) rfl rfl (n := 22) rfl ?_
    refine o_iconst X105 hx (hb hby at_22) (v := (0 : Int32)) rfl (n := 23) rfl ?_
    refine o_lloadN X105 hx (hb hby at_23) (v := p0) rfl (n := 24) rfl ?_
    refine o_bipush X105 hx (hb hby at_24) (v := (56 : Int32)) rfl (n := 26) rfl ?_
    refine o_lushr X105 hx (hb hby at_26) (v := (p0.toUInt64 >>> (56 : UInt64)).toInt64) (congrArg (fun q : UInt64 => (p0.toUInt64 >>> q).toInt64) (show ((56 : Int32) &&& 0x3f).toInt64.toUInt64 = 56 by decide)) (n := 27) rfl ?_
    refine o_l2i X105 hx (hb hby at_27) (v := ((p0.toUInt64 >>> (56 : UInt64)).toInt64).toInt32) rfl (n := 28) rfl ?_
    refine o_i2b X105 hx (hb hby at_28) (v := (((p0.toUInt64 >>> (56 : UInt64)).toInt64).toInt32).toInt8.toInt32) rfl (n := 29) rfl ?_
    refine o_bastore X105 hx hZ e105 f106 (0) (by decide) (by decide) (Nat.le_of_ble_eq_true rfl) (w := (.int ((((p0.toUInt64 >>> (56 : UInt64)).toInt64).toInt32).toInt8.toInt32))) (congrArg Value.int (o_nar8 _)) (vs' := [(.int ((((p0.toUInt64 >>> (56 : UInt64)).toInt64).toInt32).toInt8.toInt32)), (.int (0 : Int32)), (.int (0 : Int32)), (.int (0 : Int32)), (.int (0 : Int32)), (.int (0 : Int32)), (.int (0 : Int32)), (.int (0 : Int32))]) rfl (hb hby at_29) (n := 30) rfl ?_
    intro T107 h107 X107 e107 W107 V107
    have zz107 : n0 ≤ h107.size := Nat.le_trans zz105 (Nat.le_of_eq W107.size.symm)
    have N108 := Fr.snoc X107 N0 gg105
    refine o_iload X107 hx (hb hby at_30) (v := (8 : Int32)) rfl (n := 32) rfl ?_
    refine o_iconst X107 hx (hb hby at_32) (v := (1 : Int32)) rfl (n := 33) rfl ?_
    refine o_icmpN X107 hx (hb hby at_33) (XT.ii_le_f (by decide)) (n := 36) rfl ?_
    refine o_aload X107 hx (hb hby at_36) (v := (.ref b105)) rfl rfl (n := 38) rfl ?_
    refine o_iconst X107 hx (hb hby at_38) (v := (1 : Int32)) rfl (n := 39) rfl ?_
    refine o_lloadN X107 hx (hb hby at_39) (v := p0) rfl (n := 40) rfl ?_
    refine o_bipush X107 hx (hb hby at_40) (v := (48 : Int32)) rfl (n := 42) rfl ?_
    refine o_lushr X107 hx (hb hby at_42) (v := (p0.toUInt64 >>> (48 : UInt64)).toInt64) (congrArg (fun q : UInt64 => (p0.toUInt64 >>> q).toInt64) (show ((48 : Int32) &&& 0x3f).toInt64.toUInt64 = 48 by decide)) (n := 43) rfl ?_
    refine o_l2i X107 hx (hb hby at_43) (v := ((p0.toUInt64 >>> (48 : UInt64)).toInt64).toInt32) rfl (n := 44) rfl ?_
    refine o_i2b X107 hx (hb hby at_44) (v := (((p0.toUInt64 >>> (48 : UInt64)).toInt64).toInt32).toInt8.toInt32) rfl (n := 45) rfl ?_
    refine o_bastore X107 hx hZ e107 V107 (1) (by decide) (by decide) (Nat.le_of_ble_eq_true rfl) (w := (.int ((((p0.toUInt64 >>> (48 : UInt64)).toInt64).toInt32).toInt8.toInt32))) (congrArg Value.int (o_nar8 _)) (vs' := [(.int ((((p0.toUInt64 >>> (56 : UInt64)).toInt64).toInt32).toInt8.toInt32)), (.int ((((p0.toUInt64 >>> (48 : UInt64)).toInt64).toInt32).toInt8.toInt32)), (.int (0 : Int32)), (.int (0 : Int32)), (.int (0 : Int32)), (.int (0 : Int32)), (.int (0 : Int32)), (.int (0 : Int32))]) rfl (hb hby at_45) (n := 46) rfl ?_
    intro T109 h109 X109 e109 W109 V109
    have zz109 : n0 ≤ h109.size := Nat.le_trans zz107 (Nat.le_of_eq W109.size.symm)
    have N110 := Fr.snoc X109 N108 gg105
    refine o_iload X109 hx (hb hby at_46) (v := (8 : Int32)) rfl (n := 48) rfl ?_
    refine o_iconst X109 hx (hb hby at_48) (v := (2 : Int32)) rfl (n := 49) rfl ?_
    refine o_icmpN X109 hx (hb hby at_49) (XT.ii_le_f (by decide)) (n := 52) rfl ?_
    refine o_aload X109 hx (hb hby at_52) (v := (.ref b105)) rfl rfl (n := 54) rfl ?_
    refine o_iconst X109 hx (hb hby at_54) (v := (2 : Int32)) rfl (n := 55) rfl ?_
    refine o_lloadN X109 hx (hb hby at_55) (v := p0) rfl (n := 56) rfl ?_
    refine o_bipush X109 hx (hb hby at_56) (v := (40 : Int32)) rfl (n := 58) rfl ?_
    refine o_lushr X109 hx (hb hby at_58) (v := (p0.toUInt64 >>> (40 : UInt64)).toInt64) (congrArg (fun q : UInt64 => (p0.toUInt64 >>> q).toInt64) (show ((40 : Int32) &&& 0x3f).toInt64.toUInt64 = 40 by decide)) (n := 59) rfl ?_
    refine o_l2i X109 hx (hb hby at_59) (v := ((p0.toUInt64 >>> (40 : UInt64)).toInt64).toInt32) rfl (n := 60) rfl ?_
    refine o_i2b X109 hx (hb hby at_60) (v := (((p0.toUInt64 >>> (40 : UInt64)).toInt64).toInt32).toInt8.toInt32) rfl (n := 61) rfl ?_
    refine o_bastore X109 hx hZ e109 V109 (2) (by decide) (by decide) (Nat.le_of_ble_eq_true rfl) (w := (.int ((((p0.toUInt64 >>> (40 : UInt64)).toInt64).toInt32).toInt8.toInt32))) (congrArg Value.int (o_nar8 _)) (vs' := [(.int ((((p0.toUInt64 >>> (56 : UInt64)).toInt64).toInt32).toInt8.toInt32)), (.int ((((p0.toUInt64 >>> (48 : UInt64)).toInt64).toInt32).toInt8.toInt32)), (.int ((((p0.toUInt64 >>> (40 : UInt64)).toInt64).toInt32).toInt8.toInt32)), (.int (0 : Int32)), (.int (0 : Int32)), (.int (0 : Int32)), (.int (0 : Int32)), (.int (0 : Int32))]) rfl (hb hby at_61) (n := 62) rfl ?_
    intro T111 h111 X111 e111 W111 V111
    have zz111 : n0 ≤ h111.size := Nat.le_trans zz109 (Nat.le_of_eq W111.size.symm)
    have N112 := Fr.snoc X111 N110 gg105
    refine o_iload X111 hx (hb hby at_62) (v := (8 : Int32)) rfl (n := 64) rfl ?_
    refine o_iconst X111 hx (hb hby at_64) (v := (3 : Int32)) rfl (n := 65) rfl ?_
    refine o_icmpN X111 hx (hb hby at_65) (XT.ii_le_f (by decide)) (n := 68) rfl ?_
    refine o_aload X111 hx (hb hby at_68) (v := (.ref b105)) rfl rfl (n := 70) rfl ?_
    refine o_iconst X111 hx (hb hby at_70) (v := (3 : Int32)) rfl (n := 71) rfl ?_
    refine o_lloadN X111 hx (hb hby at_71) (v := p0) rfl (n := 72) rfl ?_
    refine o_bipush X111 hx (hb hby at_72) (v := (32 : Int32)) rfl (n := 74) rfl ?_
    refine o_lushr X111 hx (hb hby at_74) (v := (p0.toUInt64 >>> (32 : UInt64)).toInt64) (congrArg (fun q : UInt64 => (p0.toUInt64 >>> q).toInt64) (show ((32 : Int32) &&& 0x3f).toInt64.toUInt64 = 32 by decide)) (n := 75) rfl ?_
    refine o_l2i X111 hx (hb hby at_75) (v := ((p0.toUInt64 >>> (32 : UInt64)).toInt64).toInt32) rfl (n := 76) rfl ?_
    refine o_i2b X111 hx (hb hby at_76) (v := (((p0.toUInt64 >>> (32 : UInt64)).toInt64).toInt32).toInt8.toInt32) rfl (n := 77) rfl ?_
    refine o_bastore X111 hx hZ e111 V111 (3) (by decide) (by decide) (Nat.le_of_ble_eq_true rfl) (w := (.int ((((p0.toUInt64 >>> (32 : UInt64)).toInt64).toInt32).toInt8.toInt32))) (congrArg Value.int (o_nar8 _)) (vs' := [(.int ((((p0.toUInt64 >>> (56 : UInt64)).toInt64).toInt32).toInt8.toInt32)), (.int ((((p0.toUInt64 >>> (48 : UInt64)).toInt64).toInt32).toInt8.toInt32)), (.int ((((p0.toUInt64 >>> (40 : UInt64)).toInt64).toInt32).toInt8.toInt32)), (.int ((((p0.toUInt64 >>> (32 : UInt64)).toInt64).toInt32).toInt8.toInt32)), (.int (0 : Int32)), (.int (0 : Int32)), (.int (0 : Int32)), (.int (0 : Int32))]) rfl (hb hby at_77) (n := 78) rfl ?_
    intro T113 h113 X113 e113 W113 V113
    have zz113 : n0 ≤ h113.size := Nat.le_trans zz111 (Nat.le_of_eq W113.size.symm)
    have N114 := Fr.snoc X113 N112 gg105
    refine o_iload X113 hx (hb hby at_78) (v := (8 : Int32)) rfl (n := 80) rfl ?_
    refine o_iconst X113 hx (hb hby at_80) (v := (4 : Int32)) rfl (n := 81) rfl ?_
    refine o_icmpN X113 hx (hb hby at_81) (XT.ii_le_f (by decide)) (n := 84) rfl ?_
    refine o_aload X113 hx (hb hby at_84) (v := (.ref b105)) rfl rfl (n := 86) rfl ?_
    refine o_iconst X113 hx (hb hby at_86) (v := (4 : Int32)) rfl (n := 87) rfl ?_
    refine o_lloadN X113 hx (hb hby at_87) (v := p0) rfl (n := 88) rfl ?_
    refine o_bipush X113 hx (hb hby at_88) (v := (24 : Int32)) rfl (n := 90) rfl ?_
    refine o_lushr X113 hx (hb hby at_90) (v := (p0.toUInt64 >>> (24 : UInt64)).toInt64) (congrArg (fun q : UInt64 => (p0.toUInt64 >>> q).toInt64) (show ((24 : Int32) &&& 0x3f).toInt64.toUInt64 = 24 by decide)) (n := 91) rfl ?_
    refine o_l2i X113 hx (hb hby at_91) (v := ((p0.toUInt64 >>> (24 : UInt64)).toInt64).toInt32) rfl (n := 92) rfl ?_
    refine o_i2b X113 hx (hb hby at_92) (v := (((p0.toUInt64 >>> (24 : UInt64)).toInt64).toInt32).toInt8.toInt32) rfl (n := 93) rfl ?_
    refine o_bastore X113 hx hZ e113 V113 (4) (by decide) (by decide) (Nat.le_of_ble_eq_true rfl) (w := (.int ((((p0.toUInt64 >>> (24 : UInt64)).toInt64).toInt32).toInt8.toInt32))) (congrArg Value.int (o_nar8 _)) (vs' := [(.int ((((p0.toUInt64 >>> (56 : UInt64)).toInt64).toInt32).toInt8.toInt32)), (.int ((((p0.toUInt64 >>> (48 : UInt64)).toInt64).toInt32).toInt8.toInt32)), (.int ((((p0.toUInt64 >>> (40 : UInt64)).toInt64).toInt32).toInt8.toInt32)), (.int ((((p0.toUInt64 >>> (32 : UInt64)).toInt64).toInt32).toInt8.toInt32)), (.int ((((p0.toUInt64 >>> (24 : UInt64)).toInt64).toInt32).toInt8.toInt32)), (.int (0 : Int32)), (.int (0 : Int32)), (.int (0 : Int32))]) rfl (hb hby at_93) (n := 94) rfl ?_
    intro T115 h115 X115 e115 W115 V115
    have zz115 : n0 ≤ h115.size := Nat.le_trans zz113 (Nat.le_of_eq W115.size.symm)
    have N116 := Fr.snoc X115 N114 gg105
    refine o_iload X115 hx (hb hby at_94) (v := (8 : Int32)) rfl (n := 96) rfl ?_
    refine o_iconst X115 hx (hb hby at_96) (v := (5 : Int32)) rfl (n := 97) rfl ?_
    refine o_icmpN X115 hx (hb hby at_97) (XT.ii_le_f (by decide)) (n := 100) rfl ?_
    refine o_aload X115 hx (hb hby at_100) (v := (.ref b105)) rfl rfl (n := 102) rfl ?_
    refine o_iconst X115 hx (hb hby at_102) (v := (5 : Int32)) rfl (n := 103) rfl ?_
    refine o_lloadN X115 hx (hb hby at_103) (v := p0) rfl (n := 104) rfl ?_
    refine o_bipush X115 hx (hb hby at_104) (v := (16 : Int32)) rfl (n := 106) rfl ?_
    refine o_lushr X115 hx (hb hby at_106) (v := (p0.toUInt64 >>> (16 : UInt64)).toInt64) (congrArg (fun q : UInt64 => (p0.toUInt64 >>> q).toInt64) (show ((16 : Int32) &&& 0x3f).toInt64.toUInt64 = 16 by decide)) (n := 107) rfl ?_
    refine o_l2i X115 hx (hb hby at_107) (v := ((p0.toUInt64 >>> (16 : UInt64)).toInt64).toInt32) rfl (n := 108) rfl ?_
    refine o_i2b X115 hx (hb hby at_108) (v := (((p0.toUInt64 >>> (16 : UInt64)).toInt64).toInt32).toInt8.toInt32) rfl (n := 109) rfl ?_
    refine o_bastore X115 hx hZ e115 V115 (5) (by decide) (by decide) (Nat.le_of_ble_eq_true rfl) (w := (.int ((((p0.toUInt64 >>> (16 : UInt64)).toInt64).toInt32).toInt8.toInt32))) (congrArg Value.int (o_nar8 _)) (vs' := [(.int ((((p0.toUInt64 >>> (56 : UInt64)).toInt64).toInt32).toInt8.toInt32)), (.int ((((p0.toUInt64 >>> (48 : UInt64)).toInt64).toInt32).toInt8.toInt32)), (.int ((((p0.toUInt64 >>> (40 : UInt64)).toInt64).toInt32).toInt8.toInt32)), (.int ((((p0.toUInt64 >>> (32 : UInt64)).toInt64).toInt32).toInt8.toInt32)), (.int ((((p0.toUInt64 >>> (24 : UInt64)).toInt64).toInt32).toInt8.toInt32)), (.int ((((p0.toUInt64 >>> (16 : UInt64)).toInt64).toInt32).toInt8.toInt32)), (.int (0 : Int32)), (.int (0 : Int32))]) rfl (hb hby at_109) (n := 110) rfl ?_
    intro T117 h117 X117 e117 W117 V117
    have zz117 : n0 ≤ h117.size := Nat.le_trans zz115 (Nat.le_of_eq W117.size.symm)
    have N118 := Fr.snoc X117 N116 gg105
    refine o_iload X117 hx (hb hby at_110) (v := (8 : Int32)) rfl (n := 112) rfl ?_
    refine o_bipush X117 hx (hb hby at_112) (v := (6 : Int32)) rfl (n := 114) rfl ?_
    refine o_icmpN X117 hx (hb hby at_114) (XT.ii_le_f (by decide)) (n := 117) rfl ?_
    refine o_aload X117 hx (hb hby at_117) (v := (.ref b105)) rfl rfl (n := 119) rfl ?_
    refine o_bipush X117 hx (hb hby at_119) (v := (6 : Int32)) rfl (n := 121) rfl ?_
    refine o_lloadN X117 hx (hb hby at_121) (v := p0) rfl (n := 122) rfl ?_
    refine o_bipush X117 hx (hb hby at_122) (v := (8 : Int32)) rfl (n := 124) rfl ?_
    refine o_lushr X117 hx (hb hby at_124) (v := (p0.toUInt64 >>> (8 : UInt64)).toInt64) (congrArg (fun q : UInt64 => (p0.toUInt64 >>> q).toInt64) (show ((8 : Int32) &&& 0x3f).toInt64.toUInt64 = 8 by decide)) (n := 125) rfl ?_
    refine o_l2i X117 hx (hb hby at_125) (v := ((p0.toUInt64 >>> (8 : UInt64)).toInt64).toInt32) rfl (n := 126) rfl ?_
    refine o_i2b X117 hx (hb hby at_126) (v := (((p0.toUInt64 >>> (8 : UInt64)).toInt64).toInt32).toInt8.toInt32) rfl (n := 127) rfl ?_
    refine o_bastore X117 hx hZ e117 V117 (6) (by decide) (by decide) (Nat.le_of_ble_eq_true rfl) (w := (.int ((((p0.toUInt64 >>> (8 : UInt64)).toInt64).toInt32).toInt8.toInt32))) (congrArg Value.int (o_nar8 _)) (vs' := [(.int ((((p0.toUInt64 >>> (56 : UInt64)).toInt64).toInt32).toInt8.toInt32)), (.int ((((p0.toUInt64 >>> (48 : UInt64)).toInt64).toInt32).toInt8.toInt32)), (.int ((((p0.toUInt64 >>> (40 : UInt64)).toInt64).toInt32).toInt8.toInt32)), (.int ((((p0.toUInt64 >>> (32 : UInt64)).toInt64).toInt32).toInt8.toInt32)), (.int ((((p0.toUInt64 >>> (24 : UInt64)).toInt64).toInt32).toInt8.toInt32)), (.int ((((p0.toUInt64 >>> (16 : UInt64)).toInt64).toInt32).toInt8.toInt32)), (.int ((((p0.toUInt64 >>> (8 : UInt64)).toInt64).toInt32).toInt8.toInt32)), (.int (0 : Int32))]) rfl (hb hby at_127) (n := 128) rfl ?_
    intro T119 h119 X119 e119 W119 V119
    have zz119 : n0 ≤ h119.size := Nat.le_trans zz117 (Nat.le_of_eq W119.size.symm)
    have N120 := Fr.snoc X119 N118 gg105
    refine o_iload X119 hx (hb hby at_128) (v := (8 : Int32)) rfl (n := 130) rfl ?_
    refine o_bipush X119 hx (hb hby at_130) (v := (7 : Int32)) rfl (n := 132) rfl ?_
    refine o_icmpN X119 hx (hb hby at_132) (XT.ii_le_f (by decide)) (n := 135) rfl ?_
    refine o_aload X119 hx (hb hby at_135) (v := (.ref b105)) rfl rfl (n := 137) rfl ?_
    refine o_bipush X119 hx (hb hby at_137) (v := (7 : Int32)) rfl (n := 139) rfl ?_
    refine o_lloadN X119 hx (hb hby at_139) (v := p0) rfl (n := 140) rfl ?_
    refine o_l2i X119 hx (hb hby at_140) (v := p0.toInt32) rfl (n := 141) rfl ?_
    refine o_i2b X119 hx (hb hby at_141) (v := p0.toInt32.toInt8.toInt32) rfl (n := 142) rfl ?_
    refine o_bastore X119 hx hZ e119 V119 (7) (by decide) (by decide) (Nat.le_of_ble_eq_true rfl) (w := (.int p0.toInt32.toInt8.toInt32)) (congrArg Value.int (o_nar8 _)) (vs' := [(.int ((((p0.toUInt64 >>> (56 : UInt64)).toInt64).toInt32).toInt8.toInt32)), (.int ((((p0.toUInt64 >>> (48 : UInt64)).toInt64).toInt32).toInt8.toInt32)), (.int ((((p0.toUInt64 >>> (40 : UInt64)).toInt64).toInt32).toInt8.toInt32)), (.int ((((p0.toUInt64 >>> (32 : UInt64)).toInt64).toInt32).toInt8.toInt32)), (.int ((((p0.toUInt64 >>> (24 : UInt64)).toInt64).toInt32).toInt8.toInt32)), (.int ((((p0.toUInt64 >>> (16 : UInt64)).toInt64).toInt32).toInt8.toInt32)), (.int ((((p0.toUInt64 >>> (8 : UInt64)).toInt64).toInt32).toInt8.toInt32)), (.int p0.toInt32.toInt8.toInt32)]) rfl (hb hby at_142) (n := 143) rfl ?_
    intro T121 h121 X121 e121 W121 V121
    have zz121 : n0 ≤ h121.size := Nat.le_trans zz119 (Nat.le_of_eq W121.size.symm)
    have N122 := Fr.snoc X121 N120 gg105
    refine o_iload X121 hx (hb hby at_143) (v := (8 : Int32)) rfl (n := 145) rfl ?_
    refine o_bipush X121 hx (hb hby at_145) (v := (8 : Int32)) rfl (n := 147) rfl ?_
    refine o_icmpY X121 hx (hb hby at_147) (XT.ii_le_t (by decide)) (by decide) (n := 157) (by decide) ?_
    refine o_iload X121 hx (hb hby at_157) (v := (8 : Int32)) rfl (n := 159) rfl ?_
    refine o_bipush X121 hx (hb hby at_159) (v := (9 : Int32)) rfl (n := 161) rfl ?_
    refine o_icmpY X121 hx (hb hby at_161) (XT.ii_le_t (by decide)) (by decide) (n := 174) (by decide) ?_
    refine o_aload X121 hx (hb hby at_174) (v := (.ref b105)) rfl rfl (n := 176) rfl ?_
    refine o_callS X121 hx hZ hown (hw _ (List.mem_of_getElem? (i := 2) rfl)) (hw _ (List.mem_of_getElem? (i := 3) rfl)) (hw _ (List.mem_of_getElem? (i := 4) rfl)) (hw _ (List.mem_of_getElem? (i := 5) rfl)) (by decide) e121 (argsL := [(.ref b105)]) (rest := []) (c_head_8 l Z a0 hw b105 k105 ((((p0.toUInt64 >>> (56 : UInt64)).toInt64).toInt32).toInt8.toInt32) ((((p0.toUInt64 >>> (48 : UInt64)).toInt64).toInt32).toInt8.toInt32) ((((p0.toUInt64 >>> (40 : UInt64)).toInt64).toInt32).toInt8.toInt32) ((((p0.toUInt64 >>> (32 : UInt64)).toInt64).toInt32).toInt8.toInt32) ((((p0.toUInt64 >>> (24 : UInt64)).toInt64).toInt32).toInt8.toInt32) ((((p0.toUInt64 >>> (16 : UInt64)).toInt64).toInt32).toInt8.toInt32) ((((p0.toUInt64 >>> (8 : UInt64)).toInt64).toInt32).toInt8.toInt32) p0.toInt32.toInt8.toInt32 h121 V121) 0 (by decide) (by decide) (by decide) (by decide) (by rw [hml]; rfl) (lenOf o_pd0 rfl) rfl (Nat.le_of_eq rfl) (hb hby at_176) (n := 179) rfl ?_
    intro v123 T123 L123 X123 q123
    obtain ⟨rfl, e123, rfl⟩ := q123
    have N124 := Fr.app N122 (Fr.nil n0)
    show Goes p e below s _ _ _ (T123.setTop (mkF m 179 #[.val (.long p0), .second, .val (.int p1), .val (.int p2), .val (.int (8 : Int32)), .val (.ref b105), .unset, .unset] [(.long (o_st (o_st (o_st (o_st (o_st (o_st (o_st (o_st (0 : Int64) (((((p0.toUInt64 >>> (56 : UInt64)).toInt64).toInt32).toInt8.toInt32) &&& (255 : Int32))) (((((p0.toUInt64 >>> (48 : UInt64)).toInt64).toInt32).toInt8.toInt32) &&& (255 : Int32))) (((((p0.toUInt64 >>> (40 : UInt64)).toInt64).toInt32).toInt8.toInt32) &&& (255 : Int32))) (((((p0.toUInt64 >>> (32 : UInt64)).toInt64).toInt32).toInt8.toInt32) &&& (255 : Int32))) (((((p0.toUInt64 >>> (24 : UInt64)).toInt64).toInt32).toInt8.toInt32) &&& (255 : Int32))) (((((p0.toUInt64 >>> (16 : UInt64)).toInt64).toInt32).toInt8.toInt32) &&& (255 : Int32))) (((((p0.toUInt64 >>> (8 : UInt64)).toInt64).toInt32).toInt8.toInt32) &&& (255 : Int32))) (p0.toInt32.toInt8.toInt32 &&& (255 : Int32))))]))
    refine o_lstore X123 hx (hb hby at_179) (Ls' := #[.val (.long p0), .second, .val (.int p1), .val (.int p2), .val (.int (8 : Int32)), .val (.ref b105), .val (.long (o_st (o_st (o_st (o_st (o_st (o_st (o_st (o_st (0 : Int64) (((((p0.toUInt64 >>> (56 : UInt64)).toInt64).toInt32).toInt8.toInt32) &&& (255 : Int32))) (((((p0.toUInt64 >>> (48 : UInt64)).toInt64).toInt32).toInt8.toInt32) &&& (255 : Int32))) (((((p0.toUInt64 >>> (40 : UInt64)).toInt64).toInt32).toInt8.toInt32) &&& (255 : Int32))) (((((p0.toUInt64 >>> (32 : UInt64)).toInt64).toInt32).toInt8.toInt32) &&& (255 : Int32))) (((((p0.toUInt64 >>> (24 : UInt64)).toInt64).toInt32).toInt8.toInt32) &&& (255 : Int32))) (((((p0.toUInt64 >>> (16 : UInt64)).toInt64).toInt32).toInt8.toInt32) &&& (255 : Int32))) (((((p0.toUInt64 >>> (8 : UInt64)).toInt64).toInt32).toInt8.toInt32) &&& (255 : Int32))) (p0.toInt32.toInt8.toInt32 &&& (255 : Int32)))), .second]) rfl (n := 181) rfl ?_
    generalize h_g : (o_st (o_st (o_st (o_st (o_st (o_st (o_st (o_st (0 : Int64) (((((p0.toUInt64 >>> (56 : UInt64)).toInt64).toInt32).toInt8.toInt32) &&& (255 : Int32))) (((((p0.toUInt64 >>> (48 : UInt64)).toInt64).toInt32).toInt8.toInt32) &&& (255 : Int32))) (((((p0.toUInt64 >>> (40 : UInt64)).toInt64).toInt32).toInt8.toInt32) &&& (255 : Int32))) (((((p0.toUInt64 >>> (32 : UInt64)).toInt64).toInt32).toInt8.toInt32) &&& (255 : Int32))) (((((p0.toUInt64 >>> (24 : UInt64)).toInt64).toInt32).toInt8.toInt32) &&& (255 : Int32))) (((((p0.toUInt64 >>> (16 : UInt64)).toInt64).toInt32).toInt8.toInt32) &&& (255 : Int32))) (((((p0.toUInt64 >>> (8 : UInt64)).toInt64).toInt32).toInt8.toInt32) &&& (255 : Int32))) (p0.toInt32.toInt8.toInt32 &&& (255 : Int32))) = g
    refine o_lload X123 hx (hb hby at_181) (v := g) rfl (n := 183) rfl ?_
    refine o_lloadN X123 hx (hb hby at_183) (v := p0) rfl (n := 184) rfl ?_
    refine o_iload X123 hx (hb hby at_184) (v := (8 : Int32)) rfl (n := 186) rfl ?_
    refine o_callS X123 hx hZ hown (hw _ (List.mem_of_getElem? (i := 6) rfl)) (hw _ (List.mem_of_getElem? (i := 7) rfl)) (hw _ (List.mem_of_getElem? (i := 8) rfl)) (hw _ (List.mem_of_getElem? (i := 9) rfl)) (by decide) e123 (argsL := [(.long p0), (.int (8 : Int32))]) (rest := [(.long g)]) (c_exp_8 l Z a0 hw p0 h121) 2 (by decide) (by decide) (by decide) (by decide) (by rw [hml]; rfl) (lenOf o_pd1 rfl) rfl (Nat.le_of_eq rfl) (hb hby at_186) (n := 189) rfl ?_
    intro v125 T125 L125 X125 q125
    obtain ⟨rfl, e125, rfl⟩ := q125
    have N126 := Fr.app N124 (Fr.nil n0)
    show Goes p e below s _ _ _ (T125.setTop (mkF m 189 #[.val (.long p0), .second, .val (.int p1), .val (.int p2), .val (.int (8 : Int32)), .val (.ref b105), .val (.long g), .second] [(.long p0), (.long g)]))
    refine o_lcmp X125 hx (hb hby at_189) (n := 190) rfl ?_
    refine o_ifN X125 hx (hb hby at_190) (XT.ll_ne_f (h_g ▸ o_eq_8 p0)) (n := 193) rfl ?_
    refine o_iconst X125 hx (hb hby at_193) (v := (1 : Int32)) rfl (n := 194) rfl ?_
    refine o_goto X125 hx (hb hby at_194) (by decide) (n := 198) (by decide) ?_
    exact o_nreturn X125 hx hret hlk (t := .boolean) (by simp) (hb hby at_198) (by decide) (by decide) e125 ⟨rfl, N126⟩
  · refine o_iloadN X0 hx (hb hby at_0) (v := p2) rfl (n := 1) rfl ?_
    refine o_ldc X0 hx hZ (v := (2147483647 : Int32)) hown (hw _ (List.mem_of_getElem? (i := 0) rfl)) (hb hby at_1) (n := 3) rfl ?_
    refine o_iand X0 hx (hb hby at_3) (v := (p2 &&& (2147483647 : Int32))) rfl (n := 4) rfl ?_
    refine o_bipush X0 hx (hb hby at_4) (v := (11 : Int32)) rfl (n := 6) rfl ?_
    refine o_irem X0 hx (hb hby at_6) (by decide) (v := (9 : Int32)) q (n := 7) rfl ?_
    refine o_istore X0 hx (hb hby at_7) (Ls' := #[.val (.long p0), .second, .val (.int p1), .val (.int p2), .val (.int (9 : Int32)), .unset, .unset, .unset]) rfl (n := 9) rfl ?_
    refine o_iload X0 hx (hb hby at_9) (v := (9 : Int32)) rfl (n := 11) rfl ?_
    refine o_newarray X0 hx hZ (aty := .byte) (hw _ (List.mem_of_getElem? (i := 1) rfl)) e0 (hb hby at_11) (by decide) 9 (by decide) (by decide) (by decide) (by decide) (n := 13) rfl ?_
    intro T127 h127 b127 k127 X127 e127 g127 E127 V127
    have gg127 : n0 ≤ b127 := Nat.le_trans Z0 (Nat.le_of_eq g127.symm)
    have zz127 : n0 ≤ h127.size := Nat.le_trans Z0 E127.1
    have f128 : Arv Z h127 b127 k127 .byte (9 : Int32) [(.int (0 : Int32)), (.int (0 : Int32)), (.int (0 : Int32)), (.int (0 : Int32)), (.int (0 : Int32)), (.int (0 : Int32)), (.int (0 : Int32)), (.int (0 : Int32)), (.int (0 : Int32))] (.int (0 : Int32)) := V127.pad (pad_rep [] (.int (0 : Int32)) 9)
    refine o_astore X127 hx (hb hby at_13) rfl (Ls' := #[.val (.long p0), .second, .val (.int p1), .val (.int p2), .val (.int (9 : Int32)), .val (.ref b127), .unset, .unset]) rfl (n := 15) rfl ?_
    refine o_iload X127 hx (hb hby at_15) (v := (9 : Int32)) rfl (n := 17) rfl ?_
    refine o_ifN X127 hx (hb hby at_17) (XT.i0_le_f (by decide)) (n := 20) rfl ?_
    refine o_aload X127 hx (hb hby at_20) (v := (.ref b127)) rfl rfl (n := 22) rfl ?_
    refine o_iconst X127 hx (hb hby at_22) (v := (0 : Int32)) rfl (n := 23) rfl ?_
    refine o_lloadN X127 hx (hb hby at_23) (v := p0) rfl (n := 24) rfl ?_
    refine o_bipush X127 hx (hb hby at_24) (v := (56 : Int32)) rfl (n := 26) rfl ?_
    refine o_lushr X127 hx (hb hby at_26) (v := (p0.toUInt64 >>> (56 : UInt64)).toInt64) (congrArg (fun q : UInt64 => (p0.toUInt64 >>> q).toInt64) (show ((56 : Int32) &&& 0x3f).toInt64.toUInt64 = 56 by decide)) (n := 27) rfl ?_
    refine o_l2i X127 hx (hb hby at_27) (v := ((p0.toUInt64 >>> (56 : UInt64)).toInt64).toInt32) rfl (n := 28) rfl ?_
    refine o_i2b X127 hx (hb hby at_28) (v := (((p0.toUInt64 >>> (56 : UInt64)).toInt64).toInt32).toInt8.toInt32) rfl (n := 29) rfl ?_
    refine o_bastore X127 hx hZ e127 f128 (0) (by decide) (by decide) (Nat.le_of_ble_eq_true rfl) (w := (.int ((((p0.toUInt64 >>> (56 : UInt64)).toInt64).toInt32).toInt8.toInt32))) (congrArg Value.int (o_nar8 _)) (vs' := [(.int ((((p0.toUInt64 >>> (56 : UInt64)).toInt64).toInt32).toInt8.toInt32)), (.int (0 : Int32)), (.int (0 : Int32)), (.int (0 : Int32)), (.int (0 : Int32)), (.int (0 : Int32)), (.int (0 : Int32)), (.int (0 : Int32)), (.int (0 : Int32))]) rfl (hb hby at_29) (n := 30) rfl ?_
    intro T129 h129 X129 e129 W129 V129
    have zz129 : n0 ≤ h129.size := Nat.le_trans zz127 (Nat.le_of_eq W129.size.symm)
    have N130 := Fr.snoc X129 N0 gg127
    refine o_iload X129 hx (hb hby at_30) (v := (9 : Int32)) rfl (n := 32) rfl ?_
    refine o_iconst X129 hx (hb hby at_32) (v := (1 : Int32)) rfl (n := 33) rfl ?_
    refine o_icmpN X129 hx (hb hby at_33) (XT.ii_le_f (by decide)) (n := 36) rfl ?_
    refine o_aload X129 hx (hb hby at_36) (v := (.ref b127)) rfl rfl (n := 38) rfl ?_
    refine o_iconst X129 hx (hb hby at_38) (v := (1 : Int32)) rfl (n := 39) rfl ?_
    refine o_lloadN X129 hx (hb hby at_39) (v := p0) rfl (n := 40) rfl ?_
    refine o_bipush X129 hx (hb hby at_40) (v := (48 : Int32)) rfl (n := 42) rfl ?_
    refine o_lushr X129 hx (hb hby at_42) (v := (p0.toUInt64 >>> (48 : UInt64)).toInt64) (congrArg (fun q : UInt64 => (p0.toUInt64 >>> q).toInt64) (show ((48 : Int32) &&& 0x3f).toInt64.toUInt64 = 48 by decide)) (n := 43) rfl ?_
    refine o_l2i X129 hx (hb hby at_43) (v := ((p0.toUInt64 >>> (48 : UInt64)).toInt64).toInt32) rfl (n := 44) rfl ?_
    refine o_i2b X129 hx (hb hby at_44) (v := (((p0.toUInt64 >>> (48 : UInt64)).toInt64).toInt32).toInt8.toInt32) rfl (n := 45) rfl ?_
    refine o_bastore X129 hx hZ e129 V129 (1) (by decide) (by decide) (Nat.le_of_ble_eq_true rfl) (w := (.int ((((p0.toUInt64 >>> (48 : UInt64)).toInt64).toInt32).toInt8.toInt32))) (congrArg Value.int (o_nar8 _)) (vs' := [(.int ((((p0.toUInt64 >>> (56 : UInt64)).toInt64).toInt32).toInt8.toInt32)), (.int ((((p0.toUInt64 >>> (48 : UInt64)).toInt64).toInt32).toInt8.toInt32)), (.int (0 : Int32)), (.int (0 : Int32)), (.int (0 : Int32)), (.int (0 : Int32)), (.int (0 : Int32)), (.int (0 : Int32)), (.int (0 : Int32))]) rfl (hb hby at_45) (n := 46) rfl ?_
    intro T131 h131 X131 e131 W131 V131
    have zz131 : n0 ≤ h131.size := Nat.le_trans zz129 (Nat.le_of_eq W131.size.symm)
    have N132 := Fr.snoc X131 N130 gg127
    refine o_iload X131 hx (hb hby at_46) (v := (9 : Int32)) rfl (n := 48) rfl ?_
    refine o_iconst X131 hx (hb hby at_48) (v := (2 : Int32)) rfl (n := 49) rfl ?_
    refine o_icmpN X131 hx (hb hby at_49) (XT.ii_le_f (by decide)) (n := 52) rfl ?_
    refine o_aload X131 hx (hb hby at_52) (v := (.ref b127)) rfl rfl (n := 54) rfl ?_
    refine o_iconst X131 hx (hb hby at_54) (v := (2 : Int32)) rfl (n := 55) rfl ?_
    refine o_lloadN X131 hx (hb hby at_55) (v := p0) rfl (n := 56) rfl ?_
    refine o_bipush X131 hx (hb hby at_56) (v := (40 : Int32)) rfl (n := 58) rfl ?_
    refine o_lushr X131 hx (hb hby at_58) (v := (p0.toUInt64 >>> (40 : UInt64)).toInt64) (congrArg (fun q : UInt64 => (p0.toUInt64 >>> q).toInt64) (show ((40 : Int32) &&& 0x3f).toInt64.toUInt64 = 40 by decide)) (n := 59) rfl ?_
    refine o_l2i X131 hx (hb hby at_59) (v := ((p0.toUInt64 >>> (40 : UInt64)).toInt64).toInt32) rfl (n := 60) rfl ?_
    refine o_i2b X131 hx (hb hby at_60) (v := (((p0.toUInt64 >>> (40 : UInt64)).toInt64).toInt32).toInt8.toInt32) rfl (n := 61) rfl ?_
    refine o_bastore X131 hx hZ e131 V131 (2) (by decide) (by decide) (Nat.le_of_ble_eq_true rfl) (w := (.int ((((p0.toUInt64 >>> (40 : UInt64)).toInt64).toInt32).toInt8.toInt32))) (congrArg Value.int (o_nar8 _)) (vs' := [(.int ((((p0.toUInt64 >>> (56 : UInt64)).toInt64).toInt32).toInt8.toInt32)), (.int ((((p0.toUInt64 >>> (48 : UInt64)).toInt64).toInt32).toInt8.toInt32)), (.int ((((p0.toUInt64 >>> (40 : UInt64)).toInt64).toInt32).toInt8.toInt32)), (.int (0 : Int32)), (.int (0 : Int32)), (.int (0 : Int32)), (.int (0 : Int32)), (.int (0 : Int32)), (.int (0 : Int32))]) rfl (hb hby at_61) (n := 62) rfl ?_
    intro T133 h133 X133 e133 W133 V133
    have zz133 : n0 ≤ h133.size := Nat.le_trans zz131 (Nat.le_of_eq W133.size.symm)
    have N134 := Fr.snoc X133 N132 gg127
    refine o_iload X133 hx (hb hby at_62) (v := (9 : Int32)) rfl (n := 64) rfl ?_
    refine o_iconst X133 hx (hb hby at_64) (v := (3 : Int32)) rfl (n := 65) rfl ?_
    refine o_icmpN X133 hx (hb hby at_65) (XT.ii_le_f (by decide)) (n := 68) rfl ?_
    refine o_aload X133 hx (hb hby at_68) (v := (.ref b127)) rfl rfl (n := 70) rfl ?_
    refine o_iconst X133 hx (hb hby at_70) (v := (3 : Int32)) rfl (n := 71) rfl ?_
    refine o_lloadN X133 hx (hb hby at_71) (v := p0) rfl (n := 72) rfl ?_
    refine o_bipush X133 hx (hb hby at_72) (v := (32 : Int32)) rfl (n := 74) rfl ?_
    refine o_lushr X133 hx (hb hby at_74) (v := (p0.toUInt64 >>> (32 : UInt64)).toInt64) (congrArg (fun q : UInt64 => (p0.toUInt64 >>> q).toInt64) (show ((32 : Int32) &&& 0x3f).toInt64.toUInt64 = 32 by decide)) (n := 75) rfl ?_
    refine o_l2i X133 hx (hb hby at_75) (v := ((p0.toUInt64 >>> (32 : UInt64)).toInt64).toInt32) rfl (n := 76) rfl ?_
    refine o_i2b X133 hx (hb hby at_76) (v := (((p0.toUInt64 >>> (32 : UInt64)).toInt64).toInt32).toInt8.toInt32) rfl (n := 77) rfl ?_
    refine o_bastore X133 hx hZ e133 V133 (3) (by decide) (by decide) (Nat.le_of_ble_eq_true rfl) (w := (.int ((((p0.toUInt64 >>> (32 : UInt64)).toInt64).toInt32).toInt8.toInt32))) (congrArg Value.int (o_nar8 _)) (vs' := [(.int ((((p0.toUInt64 >>> (56 : UInt64)).toInt64).toInt32).toInt8.toInt32)), (.int ((((p0.toUInt64 >>> (48 : UInt64)).toInt64).toInt32).toInt8.toInt32)), (.int ((((p0.toUInt64 >>> (40 : UInt64)).toInt64).toInt32).toInt8.toInt32)), (.int ((((p0.toUInt64 >>> (32 : UInt64)).toInt64).toInt32).toInt8.toInt32)), (.int (0 : Int32)), (.int (0 : Int32)), (.int (0 : Int32)), (.int (0 : Int32)), (.int (0 : Int32))]) rfl (hb hby at_77) (n := 78) rfl ?_
    intro T135 h135 X135 e135 W135 V135
    have zz135 : n0 ≤ h135.size := Nat.le_trans zz133 (Nat.le_of_eq W135.size.symm)
    have N136 := Fr.snoc X135 N134 gg127
    refine o_iload X135 hx (hb hby at_78) (v := (9 : Int32)) rfl (n := 80) rfl ?_
    refine o_iconst X135 hx (hb hby at_80) (v := (4 : Int32)) rfl (n := 81) rfl ?_
    refine o_icmpN X135 hx (hb hby at_81) (XT.ii_le_f (by decide)) (n := 84) rfl ?_
    refine o_aload X135 hx (hb hby at_84) (v := (.ref b127)) rfl rfl (n := 86) rfl ?_
    refine o_iconst X135 hx (hb hby at_86) (v := (4 : Int32)) rfl (n := 87) rfl ?_
    refine o_lloadN X135 hx (hb hby at_87) (v := p0) rfl (n := 88) rfl ?_
    refine o_bipush X135 hx (hb hby at_88) (v := (24 : Int32)) rfl (n := 90) rfl ?_
    refine o_lushr X135 hx (hb hby at_90) (v := (p0.toUInt64 >>> (24 : UInt64)).toInt64) (congrArg (fun q : UInt64 => (p0.toUInt64 >>> q).toInt64) (show ((24 : Int32) &&& 0x3f).toInt64.toUInt64 = 24 by decide)) (n := 91) rfl ?_
    refine o_l2i X135 hx (hb hby at_91) (v := ((p0.toUInt64 >>> (24 : UInt64)).toInt64).toInt32) rfl (n := 92) rfl ?_
    refine o_i2b X135 hx (hb hby at_92) (v := (((p0.toUInt64 >>> (24 : UInt64)).toInt64).toInt32).toInt8.toInt32) rfl (n := 93) rfl ?_
    refine o_bastore X135 hx hZ e135 V135 (4) (by decide) (by decide) (Nat.le_of_ble_eq_true rfl) (w := (.int ((((p0.toUInt64 >>> (24 : UInt64)).toInt64).toInt32).toInt8.toInt32))) (congrArg Value.int (o_nar8 _)) (vs' := [(.int ((((p0.toUInt64 >>> (56 : UInt64)).toInt64).toInt32).toInt8.toInt32)), (.int ((((p0.toUInt64 >>> (48 : UInt64)).toInt64).toInt32).toInt8.toInt32)), (.int ((((p0.toUInt64 >>> (40 : UInt64)).toInt64).toInt32).toInt8.toInt32)), (.int ((((p0.toUInt64 >>> (32 : UInt64)).toInt64).toInt32).toInt8.toInt32)), (.int ((((p0.toUInt64 >>> (24 : UInt64)).toInt64).toInt32).toInt8.toInt32)), (.int (0 : Int32)), (.int (0 : Int32)), (.int (0 : Int32)), (.int (0 : Int32))]) rfl (hb hby at_93) (n := 94) rfl ?_
    intro T137 h137 X137 e137 W137 V137
    have zz137 : n0 ≤ h137.size := Nat.le_trans zz135 (Nat.le_of_eq W137.size.symm)
    have N138 := Fr.snoc X137 N136 gg127
    refine o_iload X137 hx (hb hby at_94) (v := (9 : Int32)) rfl (n := 96) rfl ?_
    refine o_iconst X137 hx (hb hby at_96) (v := (5 : Int32)) rfl (n := 97) rfl ?_
    refine o_icmpN X137 hx (hb hby at_97) (XT.ii_le_f (by decide)) (n := 100) rfl ?_
    refine o_aload X137 hx (hb hby at_100) (v := (.ref b127)) rfl rfl (n := 102) rfl ?_
    refine o_iconst X137 hx (hb hby at_102) (v := (5 : Int32)) rfl (n := 103) rfl ?_
    refine o_lloadN X137 hx (hb hby at_103) (v := p0) rfl (n := 104) rfl ?_
    refine o_bipush X137 hx (hb hby at_104) (v := (16 : Int32)) rfl (n := 106) rfl ?_
    refine o_lushr X137 hx (hb hby at_106) (v := (p0.toUInt64 >>> (16 : UInt64)).toInt64) (congrArg (fun q : UInt64 => (p0.toUInt64 >>> q).toInt64) (show ((16 : Int32) &&& 0x3f).toInt64.toUInt64 = 16 by decide)) (n := 107) rfl ?_
    refine o_l2i X137 hx (hb hby at_107) (v := ((p0.toUInt64 >>> (16 : UInt64)).toInt64).toInt32) rfl (n := 108) rfl ?_
    refine o_i2b X137 hx (hb hby at_108) (v := (((p0.toUInt64 >>> (16 : UInt64)).toInt64).toInt32).toInt8.toInt32) rfl (n := 109) rfl ?_
    refine o_bastore X137 hx hZ e137 V137 (5) (by decide) (by decide) (Nat.le_of_ble_eq_true rfl) (w := (.int ((((p0.toUInt64 >>> (16 : UInt64)).toInt64).toInt32).toInt8.toInt32))) (congrArg Value.int (o_nar8 _)) (vs' := [(.int ((((p0.toUInt64 >>> (56 : UInt64)).toInt64).toInt32).toInt8.toInt32)), (.int ((((p0.toUInt64 >>> (48 : UInt64)).toInt64).toInt32).toInt8.toInt32)), (.int ((((p0.toUInt64 >>> (40 : UInt64)).toInt64).toInt32).toInt8.toInt32)), (.int ((((p0.toUInt64 >>> (32 : UInt64)).toInt64).toInt32).toInt8.toInt32)), (.int ((((p0.toUInt64 >>> (24 : UInt64)).toInt64).toInt32).toInt8.toInt32)), (.int ((((p0.toUInt64 >>> (16 : UInt64)).toInt64).toInt32).toInt8.toInt32)), (.int (0 : Int32)), (.int (0 : Int32)), (.int (0 : Int32))]) rfl (hb hby at_109) (n := 110) rfl ?_
    intro T139 h139 X139 e139 W139 V139
    have zz139 : n0 ≤ h139.size := Nat.le_trans zz137 (Nat.le_of_eq W139.size.symm)
    have N140 := Fr.snoc X139 N138 gg127
    refine o_iload X139 hx (hb hby at_110) (v := (9 : Int32)) rfl (n := 112) rfl ?_
    refine o_bipush X139 hx (hb hby at_112) (v := (6 : Int32)) rfl (n := 114) rfl ?_
    refine o_icmpN X139 hx (hb hby at_114) (XT.ii_le_f (by decide)) (n := 117) rfl ?_
    refine o_aload X139 hx (hb hby at_117) (v := (.ref b127)) rfl rfl (n := 119) rfl ?_
    refine o_bipush X139 hx (hb hby at_119) (v := (6 : Int32)) rfl (n := 121) rfl ?_
    refine o_lloadN X139 hx (hb hby at_121) (v := p0) rfl (n := 122) rfl ?_
    refine o_bipush X139 hx (hb hby at_122) (v := (8 : Int32)) rfl (n := 124) rfl ?_
    refine o_lushr X139 hx (hb hby at_124) (v := (p0.toUInt64 >>> (8 : UInt64)).toInt64) (congrArg (fun q : UInt64 => (p0.toUInt64 >>> q).toInt64) (show ((8 : Int32) &&& 0x3f).toInt64.toUInt64 = 8 by decide)) (n := 125) rfl ?_
    refine o_l2i X139 hx (hb hby at_125) (v := ((p0.toUInt64 >>> (8 : UInt64)).toInt64).toInt32) rfl (n := 126) rfl ?_
    refine o_i2b X139 hx (hb hby at_126) (v := (((p0.toUInt64 >>> (8 : UInt64)).toInt64).toInt32).toInt8.toInt32) rfl (n := 127) rfl ?_
    refine o_bastore X139 hx hZ e139 V139 (6) (by decide) (by decide) (Nat.le_of_ble_eq_true rfl) (w := (.int ((((p0.toUInt64 >>> (8 : UInt64)).toInt64).toInt32).toInt8.toInt32))) (congrArg Value.int (o_nar8 _)) (vs' := [(.int ((((p0.toUInt64 >>> (56 : UInt64)).toInt64).toInt32).toInt8.toInt32)), (.int ((((p0.toUInt64 >>> (48 : UInt64)).toInt64).toInt32).toInt8.toInt32)), (.int ((((p0.toUInt64 >>> (40 : UInt64)).toInt64).toInt32).toInt8.toInt32)), (.int ((((p0.toUInt64 >>> (32 : UInt64)).toInt64).toInt32).toInt8.toInt32)), (.int ((((p0.toUInt64 >>> (24 : UInt64)).toInt64).toInt32).toInt8.toInt32)), (.int ((((p0.toUInt64 >>> (16 : UInt64)).toInt64).toInt32).toInt8.toInt32)), (.int ((((p0.toUInt64 >>> (8 : UInt64)).toInt64).toInt32).toInt8.toInt32)), (.int (0 : Int32)), (.int (0 : Int32))]) rfl (hb hby at_127) (n := 128) rfl ?_
    intro T141 h141 X141 e141 W141 V141
    have zz141 : n0 ≤ h141.size := Nat.le_trans zz139 (Nat.le_of_eq W141.size.symm)
    have N142 := Fr.snoc X141 N140 gg127
    refine o_iload X141 hx (hb hby at_128) (v := (9 : Int32)) rfl (n := 130) rfl ?_
    refine o_bipush X141 hx (hb hby at_130) (v := (7 : Int32)) rfl (n := 132) rfl ?_
    refine o_icmpN X141 hx (hb hby at_132) (XT.ii_le_f (by decide)) (n := 135) rfl ?_
    refine o_aload X141 hx (hb hby at_135) (v := (.ref b127)) rfl rfl (n := 137) rfl ?_
    refine o_bipush X141 hx (hb hby at_137) (v := (7 : Int32)) rfl (n := 139) rfl ?_
    refine o_lloadN X141 hx (hb hby at_139) (v := p0) rfl (n := 140) rfl ?_
    refine o_l2i X141 hx (hb hby at_140) (v := p0.toInt32) rfl (n := 141) rfl ?_
    refine o_i2b X141 hx (hb hby at_141) (v := p0.toInt32.toInt8.toInt32) rfl (n := 142) rfl ?_
    refine o_bastore X141 hx hZ e141 V141 (7) (by decide) (by decide) (Nat.le_of_ble_eq_true rfl) (w := (.int p0.toInt32.toInt8.toInt32)) (congrArg Value.int (o_nar8 _)) (vs' := [(.int ((((p0.toUInt64 >>> (56 : UInt64)).toInt64).toInt32).toInt8.toInt32)), (.int ((((p0.toUInt64 >>> (48 : UInt64)).toInt64).toInt32).toInt8.toInt32)), (.int ((((p0.toUInt64 >>> (40 : UInt64)).toInt64).toInt32).toInt8.toInt32)), (.int ((((p0.toUInt64 >>> (32 : UInt64)).toInt64).toInt32).toInt8.toInt32)), (.int ((((p0.toUInt64 >>> (24 : UInt64)).toInt64).toInt32).toInt8.toInt32)), (.int ((((p0.toUInt64 >>> (16 : UInt64)).toInt64).toInt32).toInt8.toInt32)), (.int ((((p0.toUInt64 >>> (8 : UInt64)).toInt64).toInt32).toInt8.toInt32)), (.int p0.toInt32.toInt8.toInt32), (.int (0 : Int32))]) rfl (hb hby at_142) (n := 143) rfl ?_
    intro T143 h143 X143 e143 W143 V143
    have zz143 : n0 ≤ h143.size := Nat.le_trans zz141 (Nat.le_of_eq W143.size.symm)
    have N144 := Fr.snoc X143 N142 gg127
    refine o_iload X143 hx (hb hby at_143) (v := (9 : Int32)) rfl (n := 145) rfl ?_
    refine o_bipush X143 hx (hb hby at_145) (v := (8 : Int32)) rfl (n := 147) rfl ?_
    refine o_icmpN X143 hx (hb hby at_147) (XT.ii_le_f (by decide)) (n := 150) rfl ?_
    refine o_aload X143 hx (hb hby at_150) (v := (.ref b127)) rfl rfl (n := 152) rfl ?_
    refine o_bipush X143 hx (hb hby at_152) (v := (8 : Int32)) rfl (n := 154) rfl ?_
    refine o_iloadN X143 hx (hb hby at_154) (v := p1) rfl (n := 155) rfl ?_
    refine o_i2b X143 hx (hb hby at_155) (v := p1.toInt8.toInt32) rfl (n := 156) rfl ?_
    refine o_bastore X143 hx hZ e143 V143 (8) (by decide) (by decide) (Nat.le_of_ble_eq_true rfl) (w := (.int p1.toInt8.toInt32)) (congrArg Value.int (o_nar8 _)) (vs' := [(.int ((((p0.toUInt64 >>> (56 : UInt64)).toInt64).toInt32).toInt8.toInt32)), (.int ((((p0.toUInt64 >>> (48 : UInt64)).toInt64).toInt32).toInt8.toInt32)), (.int ((((p0.toUInt64 >>> (40 : UInt64)).toInt64).toInt32).toInt8.toInt32)), (.int ((((p0.toUInt64 >>> (32 : UInt64)).toInt64).toInt32).toInt8.toInt32)), (.int ((((p0.toUInt64 >>> (24 : UInt64)).toInt64).toInt32).toInt8.toInt32)), (.int ((((p0.toUInt64 >>> (16 : UInt64)).toInt64).toInt32).toInt8.toInt32)), (.int ((((p0.toUInt64 >>> (8 : UInt64)).toInt64).toInt32).toInt8.toInt32)), (.int p0.toInt32.toInt8.toInt32), (.int p1.toInt8.toInt32)]) rfl (hb hby at_156) (n := 157) rfl ?_
    intro T145 h145 X145 e145 W145 V145
    have zz145 : n0 ≤ h145.size := Nat.le_trans zz143 (Nat.le_of_eq W145.size.symm)
    have N146 := Fr.snoc X145 N144 gg127
    refine o_iload X145 hx (hb hby at_157) (v := (9 : Int32)) rfl (n := 159) rfl ?_
    refine o_bipush X145 hx (hb hby at_159) (v := (9 : Int32)) rfl (n := 161) rfl ?_
    refine o_icmpY X145 hx (hb hby at_161) (XT.ii_le_t (by decide)) (by decide) (n := 174) (by decide) ?_
    refine o_aload X145 hx (hb hby at_174) (v := (.ref b127)) rfl rfl (n := 176) rfl ?_
    refine o_callS X145 hx hZ hown (hw _ (List.mem_of_getElem? (i := 2) rfl)) (hw _ (List.mem_of_getElem? (i := 3) rfl)) (hw _ (List.mem_of_getElem? (i := 4) rfl)) (hw _ (List.mem_of_getElem? (i := 5) rfl)) (by decide) e145 (argsL := [(.ref b127)]) (rest := []) (c_head_9 l Z a0 hw b127 k127 ((((p0.toUInt64 >>> (56 : UInt64)).toInt64).toInt32).toInt8.toInt32) ((((p0.toUInt64 >>> (48 : UInt64)).toInt64).toInt32).toInt8.toInt32) ((((p0.toUInt64 >>> (40 : UInt64)).toInt64).toInt32).toInt8.toInt32) ((((p0.toUInt64 >>> (32 : UInt64)).toInt64).toInt32).toInt8.toInt32) ((((p0.toUInt64 >>> (24 : UInt64)).toInt64).toInt32).toInt8.toInt32) ((((p0.toUInt64 >>> (16 : UInt64)).toInt64).toInt32).toInt8.toInt32) ((((p0.toUInt64 >>> (8 : UInt64)).toInt64).toInt32).toInt8.toInt32) p0.toInt32.toInt8.toInt32 p1.toInt8.toInt32 h145 V145) 0 (by decide) (by decide) (by decide) (by decide) (by rw [hml]; rfl) (lenOf o_pd0 rfl) rfl (Nat.le_of_eq rfl) (hb hby at_176) (n := 179) rfl ?_
    intro v147 T147 L147 X147 q147
    obtain ⟨rfl, e147, rfl⟩ := q147
    have N148 := Fr.app N146 (Fr.nil n0)
    show Goes p e below s _ _ _ (T147.setTop (mkF m 179 #[.val (.long p0), .second, .val (.int p1), .val (.int p2), .val (.int (9 : Int32)), .val (.ref b127), .unset, .unset] [(.long (o_st (o_st (o_st (o_st (o_st (o_st (o_st (o_st (0 : Int64) (((((p0.toUInt64 >>> (56 : UInt64)).toInt64).toInt32).toInt8.toInt32) &&& (255 : Int32))) (((((p0.toUInt64 >>> (48 : UInt64)).toInt64).toInt32).toInt8.toInt32) &&& (255 : Int32))) (((((p0.toUInt64 >>> (40 : UInt64)).toInt64).toInt32).toInt8.toInt32) &&& (255 : Int32))) (((((p0.toUInt64 >>> (32 : UInt64)).toInt64).toInt32).toInt8.toInt32) &&& (255 : Int32))) (((((p0.toUInt64 >>> (24 : UInt64)).toInt64).toInt32).toInt8.toInt32) &&& (255 : Int32))) (((((p0.toUInt64 >>> (16 : UInt64)).toInt64).toInt32).toInt8.toInt32) &&& (255 : Int32))) (((((p0.toUInt64 >>> (8 : UInt64)).toInt64).toInt32).toInt8.toInt32) &&& (255 : Int32))) (p0.toInt32.toInt8.toInt32 &&& (255 : Int32))))]))
    refine o_lstore X147 hx (hb hby at_179) (Ls' := #[.val (.long p0), .second, .val (.int p1), .val (.int p2), .val (.int (9 : Int32)), .val (.ref b127), .val (.long (o_st (o_st (o_st (o_st (o_st (o_st (o_st (o_st (0 : Int64) (((((p0.toUInt64 >>> (56 : UInt64)).toInt64).toInt32).toInt8.toInt32) &&& (255 : Int32))) (((((p0.toUInt64 >>> (48 : UInt64)).toInt64).toInt32).toInt8.toInt32) &&& (255 : Int32))) (((((p0.toUInt64 >>> (40 : UInt64)).toInt64).toInt32).toInt8.toInt32) &&& (255 : Int32))) (((((p0.toUInt64 >>> (32 : UInt64)).toInt64).toInt32).toInt8.toInt32) &&& (255 : Int32))) (((((p0.toUInt64 >>> (24 : UInt64)).toInt64).toInt32).toInt8.toInt32) &&& (255 : Int32))) (((((p0.toUInt64 >>> (16 : UInt64)).toInt64).toInt32).toInt8.toInt32) &&& (255 : Int32))) (((((p0.toUInt64 >>> (8 : UInt64)).toInt64).toInt32).toInt8.toInt32) &&& (255 : Int32))) (p0.toInt32.toInt8.toInt32 &&& (255 : Int32)))), .second]) rfl (n := 181) rfl ?_
    generalize h_g : (o_st (o_st (o_st (o_st (o_st (o_st (o_st (o_st (0 : Int64) (((((p0.toUInt64 >>> (56 : UInt64)).toInt64).toInt32).toInt8.toInt32) &&& (255 : Int32))) (((((p0.toUInt64 >>> (48 : UInt64)).toInt64).toInt32).toInt8.toInt32) &&& (255 : Int32))) (((((p0.toUInt64 >>> (40 : UInt64)).toInt64).toInt32).toInt8.toInt32) &&& (255 : Int32))) (((((p0.toUInt64 >>> (32 : UInt64)).toInt64).toInt32).toInt8.toInt32) &&& (255 : Int32))) (((((p0.toUInt64 >>> (24 : UInt64)).toInt64).toInt32).toInt8.toInt32) &&& (255 : Int32))) (((((p0.toUInt64 >>> (16 : UInt64)).toInt64).toInt32).toInt8.toInt32) &&& (255 : Int32))) (((((p0.toUInt64 >>> (8 : UInt64)).toInt64).toInt32).toInt8.toInt32) &&& (255 : Int32))) (p0.toInt32.toInt8.toInt32 &&& (255 : Int32))) = g
    refine o_lload X147 hx (hb hby at_181) (v := g) rfl (n := 183) rfl ?_
    refine o_lloadN X147 hx (hb hby at_183) (v := p0) rfl (n := 184) rfl ?_
    refine o_iload X147 hx (hb hby at_184) (v := (9 : Int32)) rfl (n := 186) rfl ?_
    refine o_callS X147 hx hZ hown (hw _ (List.mem_of_getElem? (i := 6) rfl)) (hw _ (List.mem_of_getElem? (i := 7) rfl)) (hw _ (List.mem_of_getElem? (i := 8) rfl)) (hw _ (List.mem_of_getElem? (i := 9) rfl)) (by decide) e147 (argsL := [(.long p0), (.int (9 : Int32))]) (rest := [(.long g)]) (c_exp_9 l Z a0 hw p0 h145) 2 (by decide) (by decide) (by decide) (by decide) (by rw [hml]; rfl) (lenOf o_pd1 rfl) rfl (Nat.le_of_eq rfl) (hb hby at_186) (n := 189) rfl ?_
    intro v149 T149 L149 X149 q149
    obtain ⟨rfl, e149, rfl⟩ := q149
    have N150 := Fr.app N148 (Fr.nil n0)
    show Goes p e below s _ _ _ (T149.setTop (mkF m 189 #[.val (.long p0), .second, .val (.int p1), .val (.int p2), .val (.int (9 : Int32)), .val (.ref b127), .val (.long g), .second] [(.long p0), (.long g)]))
    refine o_lcmp X149 hx (hb hby at_189) (n := 190) rfl ?_
    refine o_ifN X149 hx (hb hby at_190) (XT.ll_ne_f (h_g ▸ o_eq_9 p0)) (n := 193) rfl ?_
    refine o_iconst X149 hx (hb hby at_193) (v := (1 : Int32)) rfl (n := 194) rfl ?_
    refine o_goto X149 hx (hb hby at_194) (by decide) (n := 198) (by decide) ?_
    exact o_nreturn X149 hx hret hlk (t := .boolean) (by simp) (hb hby at_198) (by decide) (by decide) e149 ⟨rfl, N150⟩
  · refine o_iloadN X0 hx (hb hby at_0) (v := p2) rfl (n := 1) rfl ?_
    refine o_ldc X0 hx hZ (v := (2147483647 : Int32)) hown (hw _ (List.mem_of_getElem? (i := 0) rfl)) (hb hby at_1) (n := 3) rfl ?_
    refine o_iand X0 hx (hb hby at_3) (v := (p2 &&& (2147483647 : Int32))) rfl (n := 4) rfl ?_
    refine o_bipush X0 hx (hb hby at_4) (v := (11 : Int32)) rfl (n := 6) rfl ?_
    refine o_irem X0 hx (hb hby at_6) (by decide) (v := (10 : Int32)) q (n := 7) rfl ?_
    refine o_istore X0 hx (hb hby at_7) (Ls' := #[.val (.long p0), .second, .val (.int p1), .val (.int p2), .val (.int (10 : Int32)), .unset, .unset, .unset]) rfl (n := 9) rfl ?_
    refine o_iload X0 hx (hb hby at_9) (v := (10 : Int32)) rfl (n := 11) rfl ?_
    refine o_newarray X0 hx hZ (aty := .byte) (hw _ (List.mem_of_getElem? (i := 1) rfl)) e0 (hb hby at_11) (by decide) 10 (by decide) (by decide) (by decide) (by decide) (n := 13) rfl ?_
    intro T151 h151 b151 k151 X151 e151 g151 E151 V151
    have gg151 : n0 ≤ b151 := Nat.le_trans Z0 (Nat.le_of_eq g151.symm)
    have zz151 : n0 ≤ h151.size := Nat.le_trans Z0 E151.1
    have f152 : Arv Z h151 b151 k151 .byte (10 : Int32) [(.int (0 : Int32)), (.int (0 : Int32)), (.int (0 : Int32)), (.int (0 : Int32)), (.int (0 : Int32)), (.int (0 : Int32)), (.int (0 : Int32)), (.int (0 : Int32)), (.int (0 : Int32)), (.int (0 : Int32))] (.int (0 : Int32)) := V151.pad (pad_rep [] (.int (0 : Int32)) 10)
    refine o_astore X151 hx (hb hby at_13) rfl (Ls' := #[.val (.long p0), .second, .val (.int p1), .val (.int p2), .val (.int (10 : Int32)), .val (.ref b151), .unset, .unset]) rfl (n := 15) rfl ?_
    refine o_iload X151 hx (hb hby at_15) (v := (10 : Int32)) rfl (n := 17) rfl ?_
    refine o_ifN X151 hx (hb hby at_17) (XT.i0_le_f (by decide)) (n := 20) rfl ?_
    refine o_aload X151 hx (hb hby at_20) (v := (.ref b151)) rfl rfl (n := 22) rfl ?_
    refine o_iconst X151 hx (hb hby at_22) (v := (0 : Int32)) rfl (n := 23) rfl ?_
    refine o_lloadN X151 hx (hb hby at_23) (v := p0) rfl (n := 24) rfl ?_
    refine o_bipush X151 hx (hb hby at_24) (v := (56 : Int32)) rfl (n := 26) rfl ?_
    refine o_lushr X151 hx (hb hby at_26) (v := (p0.toUInt64 >>> (56 : UInt64)).toInt64) (congrArg (fun q : UInt64 => (p0.toUInt64 >>> q).toInt64) (show ((56 : Int32) &&& 0x3f).toInt64.toUInt64 = 56 by decide)) (n := 27) rfl ?_
    refine o_l2i X151 hx (hb hby at_27) (v := ((p0.toUInt64 >>> (56 : UInt64)).toInt64).toInt32) rfl (n := 28) rfl ?_
    refine o_i2b X151 hx (hb hby at_28) (v := (((p0.toUInt64 >>> (56 : UInt64)).toInt64).toInt32).toInt8.toInt32) rfl (n := 29) rfl ?_
    refine o_bastore X151 hx hZ e151 f152 (0) (by decide) (by decide) (Nat.le_of_ble_eq_true rfl) (w := (.int ((((p0.toUInt64 >>> (56 : UInt64)).toInt64).toInt32).toInt8.toInt32))) (congrArg Value.int (o_nar8 _)) (vs' := [(.int ((((p0.toUInt64 >>> (56 : UInt64)).toInt64).toInt32).toInt8.toInt32)), (.int (0 : Int32)), (.int (0 : Int32)), (.int (0 : Int32)), (.int (0 : Int32)), (.int (0 : Int32)), (.int (0 : Int32)), (.int (0 : Int32)), (.int (0 : Int32)), (.int (0 : Int32))]) rfl (hb hby at_29) (n := 30) rfl ?_
    intro T153 h153 X153 e153 W153 V153
    have zz153 : n0 ≤ h153.size := Nat.le_trans zz151 (Nat.le_of_eq W153.size.symm)
    have N154 := Fr.snoc X153 N0 gg151
    refine o_iload X153 hx (hb hby at_30) (v := (10 : Int32)) rfl (n := 32) rfl ?_
    refine o_iconst X153 hx (hb hby at_32) (v := (1 : Int32)) rfl (n := 33) rfl ?_
    refine o_icmpN X153 hx (hb hby at_33) (XT.ii_le_f (by decide)) (n := 36) rfl ?_
    refine o_aload X153 hx (hb hby at_36) (v := (.ref b151)) rfl rfl (n := 38) rfl ?_
    refine o_iconst X153 hx (hb hby at_38) (v := (1 : Int32)) rfl (n := 39) rfl ?_
    refine o_lloadN X153 hx (hb hby at_39) (v := p0) rfl (n := 40) rfl ?_
    refine o_bipush X153 hx (hb hby at_40) (v := (48 : Int32)) rfl (n := 42) rfl ?_
    refine o_lushr X153 hx (hb hby at_42) (v := (p0.toUInt64 >>> (48 : UInt64)).toInt64) (congrArg (fun q : UInt64 => (p0.toUInt64 >>> q).toInt64) (show ((48 : Int32) &&& 0x3f).toInt64.toUInt64 = 48 by decide)) (n := 43) rfl ?_
    refine o_l2i X153 hx (hb hby at_43) (v := ((p0.toUInt64 >>> (48 : UInt64)).toInt64).toInt32) rfl (n := 44) rfl ?_
    refine o_i2b X153 hx (hb hby at_44) (v := (((p0.toUInt64 >>> (48 : UInt64)).toInt64).toInt32).toInt8.toInt32) rfl (n := 45) rfl ?_
    refine o_bastore X153 hx hZ e153 V153 (1) (by decide) (by decide) (Nat.le_of_ble_eq_true rfl) (w := (.int ((((p0.toUInt64 >>> (48 : UInt64)).toInt64).toInt32).toInt8.toInt32))) (congrArg Value.int (o_nar8 _)) (vs' := [(.int ((((p0.toUInt64 >>> (56 : UInt64)).toInt64).toInt32).toInt8.toInt32)), (.int ((((p0.toUInt64 >>> (48 : UInt64)).toInt64).toInt32).toInt8.toInt32)), (.int (0 : Int32)), (.int (0 : Int32)), (.int (0 : Int32)), (.int (0 : Int32)), (.int (0 : Int32)), (.int (0 : Int32)), (.int (0 : Int32)), (.int (0 : Int32))]) rfl (hb hby at_45) (n := 46) rfl ?_
    intro T155 h155 X155 e155 W155 V155
    have zz155 : n0 ≤ h155.size := Nat.le_trans zz153 (Nat.le_of_eq W155.size.symm)
    have N156 := Fr.snoc X155 N154 gg151
    refine o_iload X155 hx (hb hby at_46) (v := (10 : Int32)) rfl (n := 48) rfl ?_
    refine o_iconst X155 hx (hb hby at_48) (v := (2 : Int32)) rfl (n := 49) rfl ?_
    refine o_icmpN X155 hx (hb hby at_49) (XT.ii_le_f (by decide)) (n := 52) rfl ?_
    refine o_aload X155 hx (hb hby at_52) (v := (.ref b151)) rfl rfl (n := 54) rfl ?_
    refine o_iconst X155 hx (hb hby at_54) (v := (2 : Int32)) rfl (n := 55) rfl ?_
    refine o_lloadN X155 hx (hb hby at_55) (v := p0) rfl (n := 56) rfl ?_
    refine o_bipush X155 hx (hb hby at_56) (v := (40 : Int32)) rfl (n := 58) rfl ?_
    refine o_lushr X155 hx (hb hby at_58) (v := (p0.toUInt64 >>> (40 : UInt64)).toInt64) (congrArg (fun q : UInt64 => (p0.toUInt64 >>> q).toInt64) (show ((40 : Int32) &&& 0x3f).toInt64.toUInt64 = 40 by decide)) (n := 59) rfl ?_
    refine o_l2i X155 hx (hb hby at_59) (v := ((p0.toUInt64 >>> (40 : UInt64)).toInt64).toInt32) rfl (n := 60) rfl ?_
    refine o_i2b X155 hx (hb hby at_60) (v := (((p0.toUInt64 >>> (40 : UInt64)).toInt64).toInt32).toInt8.toInt32) rfl (n := 61) rfl ?_
    refine o_bastore X155 hx hZ e155 V155 (2) (by decide) (by decide) (Nat.le_of_ble_eq_true rfl) (w := (.int ((((p0.toUInt64 >>> (40 : UInt64)).toInt64).toInt32).toInt8.toInt32))) (congrArg Value.int (o_nar8 _)) (vs' := [(.int ((((p0.toUInt64 >>> (56 : UInt64)).toInt64).toInt32).toInt8.toInt32)), (.int ((((p0.toUInt64 >>> (48 : UInt64)).toInt64).toInt32).toInt8.toInt32)), (.int ((((p0.toUInt64 >>> (40 : UInt64)).toInt64).toInt32).toInt8.toInt32)), (.int (0 : Int32)), (.int (0 : Int32)), (.int (0 : Int32)), (.int (0 : Int32)), (.int (0 : Int32)), (.int (0 : Int32)), (.int (0 : Int32))]) rfl (hb hby at_61) (n := 62) rfl ?_
    intro T157 h157 X157 e157 W157 V157
    have zz157 : n0 ≤ h157.size := Nat.le_trans zz155 (Nat.le_of_eq W157.size.symm)
    have N158 := Fr.snoc X157 N156 gg151
    refine o_iload X157 hx (hb hby at_62) (v := (10 : Int32)) rfl (n := 64) rfl ?_
    refine o_iconst X157 hx (hb hby at_64) (v := (3 : Int32)) rfl (n := 65) rfl ?_
    refine o_icmpN X157 hx (hb hby at_65) (XT.ii_le_f (by decide)) (n := 68) rfl ?_
    refine o_aload X157 hx (hb hby at_68) (v := (.ref b151)) rfl rfl (n := 70) rfl ?_
    refine o_iconst X157 hx (hb hby at_70) (v := (3 : Int32)) rfl (n := 71) rfl ?_
    refine o_lloadN X157 hx (hb hby at_71) (v := p0) rfl (n := 72) rfl ?_
    refine o_bipush X157 hx (hb hby at_72) (v := (32 : Int32)) rfl (n := 74) rfl ?_
    refine o_lushr X157 hx (hb hby at_74) (v := (p0.toUInt64 >>> (32 : UInt64)).toInt64) (congrArg (fun q : UInt64 => (p0.toUInt64 >>> q).toInt64) (show ((32 : Int32) &&& 0x3f).toInt64.toUInt64 = 32 by decide)) (n := 75) rfl ?_
    refine o_l2i X157 hx (hb hby at_75) (v := ((p0.toUInt64 >>> (32 : UInt64)).toInt64).toInt32) rfl (n := 76) rfl ?_
    refine o_i2b X157 hx (hb hby at_76) (v := (((p0.toUInt64 >>> (32 : UInt64)).toInt64).toInt32).toInt8.toInt32) rfl (n := 77) rfl ?_
    refine o_bastore X157 hx hZ e157 V157 (3) (by decide) (by decide) (Nat.le_of_ble_eq_true rfl) (w := (.int ((((p0.toUInt64 >>> (32 : UInt64)).toInt64).toInt32).toInt8.toInt32))) (congrArg Value.int (o_nar8 _)) (vs' := [(.int ((((p0.toUInt64 >>> (56 : UInt64)).toInt64).toInt32).toInt8.toInt32)), (.int ((((p0.toUInt64 >>> (48 : UInt64)).toInt64).toInt32).toInt8.toInt32)), (.int ((((p0.toUInt64 >>> (40 : UInt64)).toInt64).toInt32).toInt8.toInt32)), (.int ((((p0.toUInt64 >>> (32 : UInt64)).toInt64).toInt32).toInt8.toInt32)), (.int (0 : Int32)), (.int (0 : Int32)), (.int (0 : Int32)), (.int (0 : Int32)), (.int (0 : Int32)), (.int (0 : Int32))]) rfl (hb hby at_77) (n := 78) rfl ?_
    intro T159 h159 X159 e159 W159 V159
    have zz159 : n0 ≤ h159.size := Nat.le_trans zz157 (Nat.le_of_eq W159.size.symm)
    have N160 := Fr.snoc X159 N158 gg151
    refine o_iload X159 hx (hb hby at_78) (v := (10 : Int32)) rfl (n := 80) rfl ?_
    refine o_iconst X159 hx (hb hby at_80) (v := (4 : Int32)) rfl (n := 81) rfl ?_
    refine o_icmpN X159 hx (hb hby at_81) (XT.ii_le_f (by decide)) (n := 84) rfl ?_
    refine o_aload X159 hx (hb hby at_84) (v := (.ref b151)) rfl rfl (n := 86) rfl ?_
    refine o_iconst X159 hx (hb hby at_86) (v := (4 : Int32)) rfl (n := 87) rfl ?_
    refine o_lloadN X159 hx (hb hby at_87) (v := p0) rfl (n := 88) rfl ?_
    refine o_bipush X159 hx (hb hby at_88) (v := (24 : Int32)) rfl (n := 90) rfl ?_
    refine o_lushr X159 hx (hb hby at_90) (v := (p0.toUInt64 >>> (24 : UInt64)).toInt64) (congrArg (fun q : UInt64 => (p0.toUInt64 >>> q).toInt64) (show ((24 : Int32) &&& 0x3f).toInt64.toUInt64 = 24 by decide)) (n := 91) rfl ?_
    refine o_l2i X159 hx (hb hby at_91) (v := ((p0.toUInt64 >>> (24 : UInt64)).toInt64).toInt32) rfl (n := 92) rfl ?_
    refine o_i2b X159 hx (hb hby at_92) (v := (((p0.toUInt64 >>> (24 : UInt64)).toInt64).toInt32).toInt8.toInt32) rfl (n := 93) rfl ?_
    refine o_bastore X159 hx hZ e159 V159 (4) (by decide) (by decide) (Nat.le_of_ble_eq_true rfl) (w := (.int ((((p0.toUInt64 >>> (24 : UInt64)).toInt64).toInt32).toInt8.toInt32))) (congrArg Value.int (o_nar8 _)) (vs' := [(.int ((((p0.toUInt64 >>> (56 : UInt64)).toInt64).toInt32).toInt8.toInt32)), (.int ((((p0.toUInt64 >>> (48 : UInt64)).toInt64).toInt32).toInt8.toInt32)), (.int ((((p0.toUInt64 >>> (40 : UInt64)).toInt64).toInt32).toInt8.toInt32)), (.int ((((p0.toUInt64 >>> (32 : UInt64)).toInt64).toInt32).toInt8.toInt32)), (.int ((((p0.toUInt64 >>> (24 : UInt64)).toInt64).toInt32).toInt8.toInt32)), (.int (0 : Int32)), (.int (0 : Int32)), (.int (0 : Int32)), (.int (0 : Int32)), (.int (0 : Int32))]) rfl (hb hby at_93) (n := 94) rfl ?_
    intro T161 h161 X161 e161 W161 V161
    have zz161 : n0 ≤ h161.size := Nat.le_trans zz159 (Nat.le_of_eq W161.size.symm)
    have N162 := Fr.snoc X161 N160 gg151
    refine o_iload X161 hx (hb hby at_94) (v := (10 : Int32)) rfl (n := 96) rfl ?_
    refine o_iconst X161 hx (hb hby at_96) (v := (5 : Int32)) rfl (n := 97) rfl ?_
    refine o_icmpN X161 hx (hb hby at_97) (XT.ii_le_f (by decide)) (n := 100) rfl ?_
    refine o_aload X161 hx (hb hby at_100) (v := (.ref b151)) rfl rfl (n := 102) rfl ?_
    refine o_iconst X161 hx (hb hby at_102) (v := (5 : Int32)) rfl (n := 103) rfl ?_
    refine o_lloadN X161 hx (hb hby at_103) (v := p0) rfl (n := 104) rfl ?_
    refine o_bipush X161 hx (hb hby at_104) (v := (16 : Int32)) rfl (n := 106) rfl ?_
    refine o_lushr X161 hx (hb hby at_106) (v := (p0.toUInt64 >>> (16 : UInt64)).toInt64) (congrArg (fun q : UInt64 => (p0.toUInt64 >>> q).toInt64) (show ((16 : Int32) &&& 0x3f).toInt64.toUInt64 = 16 by decide)) (n := 107) rfl ?_
    refine o_l2i X161 hx (hb hby at_107) (v := ((p0.toUInt64 >>> (16 : UInt64)).toInt64).toInt32) rfl (n := 108) rfl ?_
    refine o_i2b X161 hx (hb hby at_108) (v := (((p0.toUInt64 >>> (16 : UInt64)).toInt64).toInt32).toInt8.toInt32) rfl (n := 109) rfl ?_
    refine o_bastore X161 hx hZ e161 V161 (5) (by decide) (by decide) (Nat.le_of_ble_eq_true rfl) (w := (.int ((((p0.toUInt64 >>> (16 : UInt64)).toInt64).toInt32).toInt8.toInt32))) (congrArg Value.int (o_nar8 _)) (vs' := [(.int ((((p0.toUInt64 >>> (56 : UInt64)).toInt64).toInt32).toInt8.toInt32)), (.int ((((p0.toUInt64 >>> (48 : UInt64)).toInt64).toInt32).toInt8.toInt32)), (.int ((((p0.toUInt64 >>> (40 : UInt64)).toInt64).toInt32).toInt8.toInt32)), (.int ((((p0.toUInt64 >>> (32 : UInt64)).toInt64).toInt32).toInt8.toInt32)), (.int ((((p0.toUInt64 >>> (24 : UInt64)).toInt64).toInt32).toInt8.toInt32)), (.int ((((p0.toUInt64 >>> (16 : UInt64)).toInt64).toInt32).toInt8.toInt32)), (.int (0 : Int32)), (.int (0 : Int32)), (.int (0 : Int32)), (.int (0 : Int32))]) rfl (hb hby at_109) (n := 110) rfl ?_
    intro T163 h163 X163 e163 W163 V163
    have zz163 : n0 ≤ h163.size := Nat.le_trans zz161 (Nat.le_of_eq W163.size.symm)
    have N164 := Fr.snoc X163 N162 gg151
    refine o_iload X163 hx (hb hby at_110) (v := (10 : Int32)) rfl (n := 112) rfl ?_
    refine o_bipush X163 hx (hb hby at_112) (v := (6 : Int32)) rfl (n := 114) rfl ?_
    refine o_icmpN X163 hx (hb hby at_114) (XT.ii_le_f (by decide)) (n := 117) rfl ?_
    refine o_aload X163 hx (hb hby at_117) (v := (.ref b151)) rfl rfl (n := 119) rfl ?_
    refine o_bipush X163 hx (hb hby at_119) (v := (6 : Int32)) rfl (n := 121) rfl ?_
    refine o_lloadN X163 hx (hb hby at_121) (v := p0) rfl (n := 122) rfl ?_
    refine o_bipush X163 hx (hb hby at_122) (v := (8 : Int32)) rfl (n := 124) rfl ?_
    refine o_lushr X163 hx (hb hby at_124) (v := (p0.toUInt64 >>> (8 : UInt64)).toInt64) (congrArg (fun q : UInt64 => (p0.toUInt64 >>> q).toInt64) (show ((8 : Int32) &&& 0x3f).toInt64.toUInt64 = 8 by decide)) (n := 125) rfl ?_
    refine o_l2i X163 hx (hb hby at_125) (v := ((p0.toUInt64 >>> (8 : UInt64)).toInt64).toInt32) rfl (n := 126) rfl ?_
    refine o_i2b X163 hx (hb hby at_126) (v := (((p0.toUInt64 >>> (8 : UInt64)).toInt64).toInt32).toInt8.toInt32) rfl (n := 127) rfl ?_
    refine o_bastore X163 hx hZ e163 V163 (6) (by decide) (by decide) (Nat.le_of_ble_eq_true rfl) (w := (.int ((((p0.toUInt64 >>> (8 : UInt64)).toInt64).toInt32).toInt8.toInt32))) (congrArg Value.int (o_nar8 _)) (vs' := [(.int ((((p0.toUInt64 >>> (56 : UInt64)).toInt64).toInt32).toInt8.toInt32)), (.int ((((p0.toUInt64 >>> (48 : UInt64)).toInt64).toInt32).toInt8.toInt32)), (.int ((((p0.toUInt64 >>> (40 : UInt64)).toInt64).toInt32).toInt8.toInt32)), (.int ((((p0.toUInt64 >>> (32 : UInt64)).toInt64).toInt32).toInt8.toInt32)), (.int ((((p0.toUInt64 >>> (24 : UInt64)).toInt64).toInt32).toInt8.toInt32)), (.int ((((p0.toUInt64 >>> (16 : UInt64)).toInt64).toInt32).toInt8.toInt32)), (.int ((((p0.toUInt64 >>> (8 : UInt64)).toInt64).toInt32).toInt8.toInt32)), (.int (0 : Int32)), (.int (0 : Int32)), (.int (0 : Int32))]) rfl (hb hby at_127) (n := 128) rfl ?_
    intro T165 h165 X165 e165 W165 V165
    have zz165 : n0 ≤ h165.size := Nat.le_trans zz163 (Nat.le_of_eq W165.size.symm)
    have N166 := Fr.snoc X165 N164 gg151
    refine o_iload X165 hx (hb hby at_128) (v := (10 : Int32)) rfl (n := 130) rfl ?_
    refine o_bipush X165 hx (hb hby at_130) (v := (7 : Int32)) rfl (n := 132) rfl ?_
    refine o_icmpN X165 hx (hb hby at_132) (XT.ii_le_f (by decide)) (n := 135) rfl ?_
    refine o_aload X165 hx (hb hby at_135) (v := (.ref b151)) rfl rfl (n := 137) rfl ?_
    refine o_bipush X165 hx (hb hby at_137) (v := (7 : Int32)) rfl (n := 139) rfl ?_
    refine o_lloadN X165 hx (hb hby at_139) (v := p0) rfl (n := 140) rfl ?_
    refine o_l2i X165 hx (hb hby at_140) (v := p0.toInt32) rfl (n := 141) rfl ?_
    refine o_i2b X165 hx (hb hby at_141) (v := p0.toInt32.toInt8.toInt32) rfl (n := 142) rfl ?_
    refine o_bastore X165 hx hZ e165 V165 (7) (by decide) (by decide) (Nat.le_of_ble_eq_true rfl) (w := (.int p0.toInt32.toInt8.toInt32)) (congrArg Value.int (o_nar8 _)) (vs' := [(.int ((((p0.toUInt64 >>> (56 : UInt64)).toInt64).toInt32).toInt8.toInt32)), (.int ((((p0.toUInt64 >>> (48 : UInt64)).toInt64).toInt32).toInt8.toInt32)), (.int ((((p0.toUInt64 >>> (40 : UInt64)).toInt64).toInt32).toInt8.toInt32)), (.int ((((p0.toUInt64 >>> (32 : UInt64)).toInt64).toInt32).toInt8.toInt32)), (.int ((((p0.toUInt64 >>> (24 : UInt64)).toInt64).toInt32).toInt8.toInt32)), (.int ((((p0.toUInt64 >>> (16 : UInt64)).toInt64).toInt32).toInt8.toInt32)), (.int ((((p0.toUInt64 >>> (8 : UInt64)).toInt64).toInt32).toInt8.toInt32)), (.int p0.toInt32.toInt8.toInt32), (.int (0 : Int32)), (.int (0 : Int32))]) rfl (hb hby at_142) (n := 143) rfl ?_
    intro T167 h167 X167 e167 W167 V167
    have zz167 : n0 ≤ h167.size := Nat.le_trans zz165 (Nat.le_of_eq W167.size.symm)
    have N168 := Fr.snoc X167 N166 gg151
    refine o_iload X167 hx (hb hby at_143) (v := (10 : Int32)) rfl (n := 145) rfl ?_
    refine o_bipush X167 hx (hb hby at_145) (v := (8 : Int32)) rfl (n := 147) rfl ?_
    refine o_icmpN X167 hx (hb hby at_147) (XT.ii_le_f (by decide)) (n := 150) rfl ?_
    refine o_aload X167 hx (hb hby at_150) (v := (.ref b151)) rfl rfl (n := 152) rfl ?_
    refine o_bipush X167 hx (hb hby at_152) (v := (8 : Int32)) rfl (n := 154) rfl ?_
    refine o_iloadN X167 hx (hb hby at_154) (v := p1) rfl (n := 155) rfl ?_
    refine o_i2b X167 hx (hb hby at_155) (v := p1.toInt8.toInt32) rfl (n := 156) rfl ?_
    refine o_bastore X167 hx hZ e167 V167 (8) (by decide) (by decide) (Nat.le_of_ble_eq_true rfl) (w := (.int p1.toInt8.toInt32)) (congrArg Value.int (o_nar8 _)) (vs' := [(.int ((((p0.toUInt64 >>> (56 : UInt64)).toInt64).toInt32).toInt8.toInt32)), (.int ((((p0.toUInt64 >>> (48 : UInt64)).toInt64).toInt32).toInt8.toInt32)), (.int ((((p0.toUInt64 >>> (40 : UInt64)).toInt64).toInt32).toInt8.toInt32)), (.int ((((p0.toUInt64 >>> (32 : UInt64)).toInt64).toInt32).toInt8.toInt32)), (.int ((((p0.toUInt64 >>> (24 : UInt64)).toInt64).toInt32).toInt8.toInt32)), (.int ((((p0.toUInt64 >>> (16 : UInt64)).toInt64).toInt32).toInt8.toInt32)), (.int ((((p0.toUInt64 >>> (8 : UInt64)).toInt64).toInt32).toInt8.toInt32)), (.int p0.toInt32.toInt8.toInt32), (.int p1.toInt8.toInt32), (.int (0 : Int32))]) rfl (hb hby at_156) (n := 157) rfl ?_
    intro T169 h169 X169 e169 W169 V169
    have zz169 : n0 ≤ h169.size := Nat.le_trans zz167 (Nat.le_of_eq W169.size.symm)
    have N170 := Fr.snoc X169 N168 gg151
    refine o_iload X169 hx (hb hby at_157) (v := (10 : Int32)) rfl (n := 159) rfl ?_
    refine o_bipush X169 hx (hb hby at_159) (v := (9 : Int32)) rfl (n := 161) rfl ?_
    refine o_icmpN X169 hx (hb hby at_161) (XT.ii_le_f (by decide)) (n := 164) rfl ?_
    refine o_aload X169 hx (hb hby at_164) (v := (.ref b151)) rfl rfl (n := 166) rfl ?_
    refine o_bipush X169 hx (hb hby at_166) (v := (9 : Int32)) rfl (n := 168) rfl ?_
    refine o_iloadN X169 hx (hb hby at_168) (v := p1) rfl (n := 169) rfl ?_
    refine o_bipush X169 hx (hb hby at_169) (v := (8 : Int32)) rfl (n := 171) rfl ?_
    refine o_iushr X169 hx (hb hby at_171) (v := (p1.toUInt32 >>> (8 : UInt32)).toInt32) (congrArg (fun q : UInt32 => (p1.toUInt32 >>> q).toInt32) (show ((8 : Int32) &&& 31).toUInt32 = 8 by decide)) (n := 172) rfl ?_
    refine o_i2b X169 hx (hb hby at_172) (v := ((p1.toUInt32 >>> (8 : UInt32)).toInt32).toInt8.toInt32) rfl (n := 173) rfl ?_
    refine o_bastore X169 hx hZ e169 V169 (9) (by decide) (by decide) (Nat.le_of_ble_eq_true rfl) (w := (.int (((p1.toUInt32 >>> (8 : UInt32)).toInt32).toInt8.toInt32))) (congrArg Value.int (o_nar8 _)) (vs' := [(.int ((((p0.toUInt64 >>> (56 : UInt64)).toInt64).toInt32).toInt8.toInt32)), (.int ((((p0.toUInt64 >>> (48 : UInt64)).toInt64).toInt32).toInt8.toInt32)), (.int ((((p0.toUInt64 >>> (40 : UInt64)).toInt64).toInt32).toInt8.toInt32)), (.int ((((p0.toUInt64 >>> (32 : UInt64)).toInt64).toInt32).toInt8.toInt32)), (.int ((((p0.toUInt64 >>> (24 : UInt64)).toInt64).toInt32).toInt8.toInt32)), (.int ((((p0.toUInt64 >>> (16 : UInt64)).toInt64).toInt32).toInt8.toInt32)), (.int ((((p0.toUInt64 >>> (8 : UInt64)).toInt64).toInt32).toInt8.toInt32)), (.int p0.toInt32.toInt8.toInt32), (.int p1.toInt8.toInt32), (.int (((p1.toUInt32 >>> (8 : UInt32)).toInt32).toInt8.toInt32))]) rfl (hb hby at_173) (n := 174) rfl ?_
    intro T171 h171 X171 e171 W171 V171
    have zz171 : n0 ≤ h171.size := Nat.le_trans zz169 (Nat.le_of_eq W171.size.symm)
    have N172 := Fr.snoc X171 N170 gg151
    refine o_aload X171 hx (hb hby at_174) (v := (.ref b151)) rfl rfl (n := 176) rfl ?_
    refine o_callS X171 hx hZ hown (hw _ (List.mem_of_getElem? (i := 2) rfl)) (hw _ (List.mem_of_getElem? (i := 3) rfl)) (hw _ (List.mem_of_getElem? (i := 4) rfl)) (hw _ (List.mem_of_getElem? (i := 5) rfl)) (by decide) e171 (argsL := [(.ref b151)]) (rest := []) (c_head_10 l Z a0 hw b151 k151 ((((p0.toUInt64 >>> (56 : UInt64)).toInt64).toInt32).toInt8.toInt32) ((((p0.toUInt64 >>> (48 : UInt64)).toInt64).toInt32).toInt8.toInt32) ((((p0.toUInt64 >>> (40 : UInt64)).toInt64).toInt32).toInt8.toInt32) ((((p0.toUInt64 >>> (32 : UInt64)).toInt64).toInt32).toInt8.toInt32) ((((p0.toUInt64 >>> (24 : UInt64)).toInt64).toInt32).toInt8.toInt32) ((((p0.toUInt64 >>> (16 : UInt64)).toInt64).toInt32).toInt8.toInt32) ((((p0.toUInt64 >>> (8 : UInt64)).toInt64).toInt32).toInt8.toInt32) p0.toInt32.toInt8.toInt32 p1.toInt8.toInt32 (((p1.toUInt32 >>> (8 : UInt32)).toInt32).toInt8.toInt32) h171 V171) 0 (by decide) (by decide) (by decide) (by decide) (by rw [hml]; rfl) (lenOf o_pd0 rfl) rfl (Nat.le_of_eq rfl) (hb hby at_176) (n := 179) rfl ?_
    intro v173 T173 L173 X173 q173
    obtain ⟨rfl, e173, rfl⟩ := q173
    have N174 := Fr.app N172 (Fr.nil n0)
    show Goes p e below s _ _ _ (T173.setTop (mkF m 179 #[.val (.long p0), .second, .val (.int p1), .val (.int p2), .val (.int (10 : Int32)), .val (.ref b151), .unset, .unset] [(.long (o_st (o_st (o_st (o_st (o_st (o_st (o_st (o_st (0 : Int64) (((((p0.toUInt64 >>> (56 : UInt64)).toInt64).toInt32).toInt8.toInt32) &&& (255 : Int32))) (((((p0.toUInt64 >>> (48 : UInt64)).toInt64).toInt32).toInt8.toInt32) &&& (255 : Int32))) (((((p0.toUInt64 >>> (40 : UInt64)).toInt64).toInt32).toInt8.toInt32) &&& (255 : Int32))) (((((p0.toUInt64 >>> (32 : UInt64)).toInt64).toInt32).toInt8.toInt32) &&& (255 : Int32))) (((((p0.toUInt64 >>> (24 : UInt64)).toInt64).toInt32).toInt8.toInt32) &&& (255 : Int32))) (((((p0.toUInt64 >>> (16 : UInt64)).toInt64).toInt32).toInt8.toInt32) &&& (255 : Int32))) (((((p0.toUInt64 >>> (8 : UInt64)).toInt64).toInt32).toInt8.toInt32) &&& (255 : Int32))) (p0.toInt32.toInt8.toInt32 &&& (255 : Int32))))]))
    refine o_lstore X173 hx (hb hby at_179) (Ls' := #[.val (.long p0), .second, .val (.int p1), .val (.int p2), .val (.int (10 : Int32)), .val (.ref b151), .val (.long (o_st (o_st (o_st (o_st (o_st (o_st (o_st (o_st (0 : Int64) (((((p0.toUInt64 >>> (56 : UInt64)).toInt64).toInt32).toInt8.toInt32) &&& (255 : Int32))) (((((p0.toUInt64 >>> (48 : UInt64)).toInt64).toInt32).toInt8.toInt32) &&& (255 : Int32))) (((((p0.toUInt64 >>> (40 : UInt64)).toInt64).toInt32).toInt8.toInt32) &&& (255 : Int32))) (((((p0.toUInt64 >>> (32 : UInt64)).toInt64).toInt32).toInt8.toInt32) &&& (255 : Int32))) (((((p0.toUInt64 >>> (24 : UInt64)).toInt64).toInt32).toInt8.toInt32) &&& (255 : Int32))) (((((p0.toUInt64 >>> (16 : UInt64)).toInt64).toInt32).toInt8.toInt32) &&& (255 : Int32))) (((((p0.toUInt64 >>> (8 : UInt64)).toInt64).toInt32).toInt8.toInt32) &&& (255 : Int32))) (p0.toInt32.toInt8.toInt32 &&& (255 : Int32)))), .second]) rfl (n := 181) rfl ?_
    generalize h_g : (o_st (o_st (o_st (o_st (o_st (o_st (o_st (o_st (0 : Int64) (((((p0.toUInt64 >>> (56 : UInt64)).toInt64).toInt32).toInt8.toInt32) &&& (255 : Int32))) (((((p0.toUInt64 >>> (48 : UInt64)).toInt64).toInt32).toInt8.toInt32) &&& (255 : Int32))) (((((p0.toUInt64 >>> (40 : UInt64)).toInt64).toInt32).toInt8.toInt32) &&& (255 : Int32))) (((((p0.toUInt64 >>> (32 : UInt64)).toInt64).toInt32).toInt8.toInt32) &&& (255 : Int32))) (((((p0.toUInt64 >>> (24 : UInt64)).toInt64).toInt32).toInt8.toInt32) &&& (255 : Int32))) (((((p0.toUInt64 >>> (16 : UInt64)).toInt64).toInt32).toInt8.toInt32) &&& (255 : Int32))) (((((p0.toUInt64 >>> (8 : UInt64)).toInt64).toInt32).toInt8.toInt32) &&& (255 : Int32))) (p0.toInt32.toInt8.toInt32 &&& (255 : Int32))) = g
    refine o_lload X173 hx (hb hby at_181) (v := g) rfl (n := 183) rfl ?_
    refine o_lloadN X173 hx (hb hby at_183) (v := p0) rfl (n := 184) rfl ?_
    refine o_iload X173 hx (hb hby at_184) (v := (10 : Int32)) rfl (n := 186) rfl ?_
    refine o_callS X173 hx hZ hown (hw _ (List.mem_of_getElem? (i := 6) rfl)) (hw _ (List.mem_of_getElem? (i := 7) rfl)) (hw _ (List.mem_of_getElem? (i := 8) rfl)) (hw _ (List.mem_of_getElem? (i := 9) rfl)) (by decide) e173 (argsL := [(.long p0), (.int (10 : Int32))]) (rest := [(.long g)]) (c_exp_10 l Z a0 hw p0 h171) 2 (by decide) (by decide) (by decide) (by decide) (by rw [hml]; rfl) (lenOf o_pd1 rfl) rfl (Nat.le_of_eq rfl) (hb hby at_186) (n := 189) rfl ?_
    intro v175 T175 L175 X175 q175
    obtain ⟨rfl, e175, rfl⟩ := q175
    have N176 := Fr.app N174 (Fr.nil n0)
    show Goes p e below s _ _ _ (T175.setTop (mkF m 189 #[.val (.long p0), .second, .val (.int p1), .val (.int p2), .val (.int (10 : Int32)), .val (.ref b151), .val (.long g), .second] [(.long p0), (.long g)]))
    refine o_lcmp X175 hx (hb hby at_189) (n := 190) rfl ?_
    refine o_ifN X175 hx (hb hby at_190) (XT.ll_ne_f (h_g ▸ o_eq_10 p0)) (n := 193) rfl ?_
    refine o_iconst X175 hx (hb hby at_193) (v := (1 : Int32)) rfl (n := 194) rfl ?_
    refine o_goto X175 hx (hb hby at_194) (by decide) (n := 198) (by decide) ?_
    exact o_nreturn X175 hx hret hlk (t := .boolean) (by simp) (hb hby at_198) (by decide) (by decide) e175 ⟨rfl, N176⟩
set_option maxRecDepth 65536 in
set_option maxHeartbeats 40000000 in
theorem comes_1 {Post : Tables → Env → Array Value → State → Outcome → State → Prop} (hpost : ∀ tb e args s v u, (limb_1_1.after args s (.returned v) u = true ∧ limb_1_2.after args s (.returned v) u = true ∧ True) → FrameEnd s (.returned v) u (Jvm.fieldLocs frame_1_writes args s ++ Jvm.arrayLocs frame_1_arrays args s ++ Jvm.staticLocs frame_1_statics s) 16 128 → Post tb e args s (.returned v) u) :
    ArmFor flags0 classFile x code maxLocals ret World_1 tables_1 room_1 Calls_1 rest_1 Pre_1 Post := by
  intro l hfl _ _ p e ha hc hk s m args below hf hA hF happ hP
  obtain ⟨hcalls, hrest, hpre⟩ := hP
  obtain ⟨-, -, -, hnamed, -, -, -, hat⟩ := (Spec.applies_iff hf).mp happ
  obtain ⟨hg, hn⟩ := and_e (Cond.before_iff.mp (show (Jvm.Cond.and given_1 narrow_1).before args s = true from hpre))
  obtain ⟨gv1, gv2⟩ := and_e hg
  obtain ⟨gv3, gv4⟩ := and_e gv2
  obtain ⟨gv5, gv6⟩ := and_e gv4
  obtain ⟨w0, w1, w2, rfl⟩ : ∃ w0 w1 w2 : Value, args = #[w0, w1, w2] := by
    have hs : args.size = 3 := by simpa [Cond.value, given_1] using gv1
    obtain ⟨L⟩ := args
    match L, hs with
    | [w0, w1, w2], _ => exact ⟨w0, w1, w2, rfl⟩
  have hw := fun d (hd : d ∈ tables_1) => atoms_spec (ws := Jvm.Cond.code x code maxLocals ret :: tables_1) hat d (List.mem_cons_of_mem _ hd)
  have hfit : Fit s := fun {y c} hc i hi => by
    obtain ⟨ha, rfl⟩ := Array.getElem?_eq_some_iff.mp hc
    have q := List.all_eq_true.mp ((Array.all_eq_true_iff_forall_mem.mp hF) _ (Array.getElem_mem ha)) i (List.mem_range.mpr hi)
    simpa [Array.getElem?_eq_getElem hi] using q
  obtain ⟨i0, ei0⟩ := isL_v gv3
  obtain rfl : w0 = (.long i0) := Option.some.inj ei0
  obtain ⟨i1, ei1⟩ := is_v gv5
  obtain rfl : w1 = (.int i1) := Option.some.inj ei1
  obtain ⟨i2, ei2⟩ := is_v gv6
  obtain rfl : w2 = (.int i2) := Option.some.inj ei2
  obtain ⟨n, o, h1, h2, h3, _, L, rfl, ⟨rfl, N⟩, hq⟩ := o_law l s _ hw i0 i1 i2 s.heap s.heap.size (Nat.le_refl _) p e ha hc hk s m _ below hf ((Spec.applies_iff_loose hf).mp happ).1 ⟨rfl, State.Warmed39.refl s, rfl⟩ trivial
  refine ⟨n, _, h1, h2, h3, hpost _ _ _ _ _ _ ⟨Cond.after_iff.mpr rfl, Cond.after_iff.mpr (eq_i res_at (Term.int_eval (1)) rfl), trivial⟩ ⟨hq.1, hq.2.1, (hq.2.2.sift fun y hy => Or.inr (N y hy)).mono (by decide) (by decide)⟩⟩
theorem main_1_1 : Claimed_1_1 := comes_1 fun _ _ _ _ _ _ h hF => ⟨h.1, hF⟩
theorem main_1_2 : Claimed_1_2 := comes_1 fun _ _ _ _ _ _ h hF => ⟨h.2.1, hF⟩
end Jvm.Pilot.@@N@@
namespace Jvm.Pilot.@@N@@
open Jvm Jvm.ClassFile Sem Op Lib Jvm.Free Jvm.Stand Jvm.Pilot.@@N@@.Jvm.D
/-! MADE BY PROGRAM (witnessworld.py) out of the Statement's table words and the real class files: 9 classes; the members and pool entries that the words name. The judged class is class 1, her method 2. -/
namespace start1
open Jvm.ClassFile
def u (s : String) : CpInfo := .utf8 (stringToUtf16 s)
/-- a pool by its gaps: so many unusable entries, then the entry; so many at the end -/
def gap : Nat → List CpInfo → List CpInfo
  | 0, r => r
  | n + 1, r => .unusable :: gap n r
def poolList (es : List (Nat × CpInfo)) (last : Nat) : List CpInfo := es.foldr (fun e r => gap e.1 (e.2 :: r)) (gap last [])
def pool (es : List (Nat × CpInfo)) (last : Nat) : Array CpInfo := ⟨poolList es last⟩
def fileOf (pool : Array CpInfo) (this : Nat) (attrs : Array Attribute := #[]) (ms : Array MethodInfo := #[]) (fl : Nat := 33) (sup : Nat := 0) (ifs : Array Nat := #[]) (fds : Array FieldInfo := #[]) : ClassFile where
  minorVersion := 0
  majorVersion := 65
  constantPool := pool
  accessFlags := fl
  thisClass := this
  superClass := sup
  interfaces := ifs
  fields := fds
  methods := ms
  attributes := attrs
def plain (name : String) (sup : Option ClassId) : Class where
  name := name
  kind := .ordinary
  loader := none
  accessFlags := 33
  super := sup
  interfaces := #[]
  cf := none
  fields := #[]
  methods := #[]
  instanceTypes := #[]
  staticTypes := #[]
  resolved := #[]
  callSites := []
  init := .initialized
  statics := none
  mirror := none

def pool0 : Array CpInfo := pool [(5, u "<init>"), (0, u "()V"), (1, .class_ 10), (1, u "java/lang/Object")] 113

def k0m0 : Method := { name := "<init>", desc := "()V", sig := { parameters := [], returnType := none }, accessFlags := 1, code := none }
/-- java/lang/Object -/
def k0 : Class := { plain "java/lang/Object" none with
  accessFlags := 33
  interfaces := #[]
  cf := some (fileOf pool0 8 #[] #[{ accessFlags := 1, nameIndex := 5, descriptorIndex := 6, attributes := #[] }] 33 0 #[] #[])
  fields := #[]
  methods := #[k0m0]
  instanceTypes := #[]
  staticTypes := #[]
  resolved := Array.replicate 124 none
  statics := none }

def pool1 : Array CpInfo := pool [(2, .class_ 4), (1, u "java/lang/Object"), (0, u "<init>"), (0, u "()V"), (0, .long 18446744073709551615), (1, .integer 2147483647), (0, .methodref 11 12), (0, .class_ 13), (0, .nameAndType 14 15), (0, u "com/example/variform/variform/variant/Utf8"), (0, u "head"), (0, u "([B)J"), (0, .methodref 17 18), (0, .class_ 19), (0, .nameAndType 20 21), (0, u "com/example/variform/variform/variant/Utf8HeadPinLaw"), (0, u "expected"), (0, u "(JI)J"), (3, u "law"), (0, u "(JII)Z")] 4

def k1m0 : Method := { name := "<init>", desc := "()V", sig := { parameters := [], returnType := none }, accessFlags := 2, code := none }
def k1c1 : Code := { maxStack := 7, maxLocals := 3, code := method_2_code, exceptionTable := #[], attributes := #[] }
def k1m1 : Method := { name := "expected", desc := "(JI)J", sig := { parameters := [.long, .int], returnType := some .long }, accessFlags := 10, code := some k1c1 }
def k1c2 : Code := { maxStack := 5, maxLocals := 8, code := code, exceptionTable := #[], attributes := #[] }
def k1m2 : Method := { name := "law", desc := "(JII)Z", sig := { parameters := [.long, .int, .int], returnType := some .boolean }, accessFlags := 9, code := some k1c2 }
/-- com/example/variform/variform/variant/Utf8HeadPinLaw -/
def k1 : Class := { plain "com/example/variform/variform/variant/Utf8HeadPinLaw" (some 0) with
  accessFlags := 49
  interfaces := #[]
  cf := some (fileOf pool1 17 #[] #[{ accessFlags := 2, nameIndex := 5, descriptorIndex := 6, attributes := #[] }, { accessFlags := 10, nameIndex := 20, descriptorIndex := 21, attributes := #[] }, { accessFlags := 9, nameIndex := 25, descriptorIndex := 26, attributes := #[] }] 49 2 #[] #[])
  fields := #[]
  methods := #[k1m0, k1m1, k1m2]
  instanceTypes := #[]
  staticTypes := #[]
  resolved := Array.replicate 31 none
  statics := none }

def pool2 : Array CpInfo := pool [(2, .class_ 4), (1, u "java/lang/Object"), (0, u "<init>"), (0, u "()V"), (17, .class_ 26), (1, u "com/example/variform/variform/variant/Utf8"), (69, u "NOT_ASCII"), (0, u "J"), (5, u "head"), (0, u "([B)J")] 6

def k2m0 : Method := { name := "<init>", desc := "()V", sig := { parameters := [], returnType := none }, accessFlags := 2, code := none }
def k2c1 : Code := { maxStack := 4, maxLocals := 4, code := prog_28_method_5_code, exceptionTable := #[], attributes := #[] }
def k2m1 : Method := { name := "head", desc := "([B)J", sig := { parameters := [(.array .byte)], returnType := some .long }, accessFlags := 8, code := some k2c1 }
/-- com/example/variform/variform/variant/Utf8 -/
def k2 : Class := { plain "com/example/variform/variform/variant/Utf8" (some 0) with
  accessFlags := 48
  interfaces := #[]
  cf := some (fileOf pool2 24 #[] #[{ accessFlags := 2, nameIndex := 5, descriptorIndex := 6, attributes := #[] }, { accessFlags := 8, nameIndex := 103, descriptorIndex := 104, attributes := #[] }] 48 2 #[] #[{ accessFlags := 24, nameIndex := 96, descriptorIndex := 97, attributes := #[] }])
  fields := #[{ name := "NOT_ASCII", type := .long, accessFlags := 24, slot := 0, constantValue := 0 }]
  methods := #[k2m0, k2m1]
  instanceTypes := #[]
  staticTypes := #[.long]
  resolved := Array.replicate 111 none
  statics := none }

def pool3 : Array CpInfo := pool [(1, u "java/lang/Cloneable"), (0, .class_ 1), (0, u "java/lang/Object"), (0, .class_ 3)] 3

/-- java/lang/Cloneable -/
def k3 : Class := { plain "java/lang/Cloneable" (some 0) with
  accessFlags := 1537
  interfaces := #[]
  cf := some (fileOf pool3 2 #[] #[] 1537 4 #[] #[])
  fields := #[]
  methods := #[]
  instanceTypes := #[]
  staticTypes := #[]
  resolved := Array.replicate 8 none
  statics := none }

def pool4 : Array CpInfo := pool [(1, u "java/io/Serializable"), (0, .class_ 1), (0, u "java/lang/Object"), (0, .class_ 3)] 3

/-- java/io/Serializable -/
def k4 : Class := { plain "java/io/Serializable" (some 0) with
  accessFlags := 1537
  interfaces := #[]
  cf := some (fileOf pool4 2 #[] #[] 1537 4 #[] #[])
  fields := #[]
  methods := #[]
  instanceTypes := #[]
  staticTypes := #[]
  resolved := Array.replicate 8 none
  statics := none }

/-- the primitive byte -/
def k5 : Class := { plain "byte" none with kind := .primitive 'B', accessFlags := 0x411 }
/-- [B -/
def k6 : Class := { plain "[B" (some 0) with kind := .array 5 .byte, interfaces := #[3, 4], accessFlags := 1041 }

/-- the primitive int -/
def k7 : Class := { plain "int" none with kind := .primitive 'I', accessFlags := 0x411 }
/-- [I -/
def k8 : Class := { plain "[I" (some 0) with kind := .array 7 .int, interfaces := #[3, 4], accessFlags := 1041 }

def heap : Heap := #[]
def classes : Array Class := #[k0, k1, k2, k3, k4, k5, k6, k7, k8]
def interned : List (Array UInt16 × Addr) := []
def slotsUsed : Nat := 0
def theMethod : MethodId := ⟨1, 2⟩
def args0 : Array Value := #[.long 5, .int 5, .int 5]
def aboutOver (below : List Frame) : State where
  vm := { classes := classes, interned := interned.toArray }
  heap := heap
  slotsUsed := slotsUsed
  threads := #[{ frames := .invoking theMethod args0 :: below }]
def below0 : List Frame := [.native { method := ⟨0, 0⟩, args := #[] }]
def about1 : State := aboutOver below0
def p0 : Program := .bare "" "" ""
def e0 : Env := launch0.env 0 0 0
theorem w_frames : about1.frames = Frame.invoking theMethod args0 :: below0 := rfl
set_option maxRecDepth 65536 in
theorem w_args : argsFit about1.vm theMethod args0 = true := by decide +kernel
set_option maxRecDepth 65536 in
theorem w_heap : heapFits about1 = true := by decide +kernel
set_option maxRecDepth 65536 in
theorem w_runnable : about1.curStatus? = some .runnable := by decide +kernel
set_option maxRecDepth 65536 in
theorem w_alone : about1.alone = true := by decide +kernel
set_option maxRecDepth 65536 in
theorem w_named : about1.methodNamed? x = some theMethod := by decide +kernel
set_option maxRecDepth 65536 in
theorem w_hears : about1.hears theMethod below0 = true := by decide +kernel
set_option maxRecDepth 65536 in
theorem w_ripe : about1.ripe theMethod args0 below0 = true := by decide +kernel
theorem w_running : about1.status = .running := rfl
set_option maxRecDepth 65536 in
theorem w_room : about1.hasRoom e0.platform room_1 = true :=
  launch0.hasRoom_least _ room_1 (by decide +kernel) (by decide +kernel) (by decide +kernel) (by decide +kernel) (by decide +kernel) (by decide +kernel)
theorem allAtoms_all (ts : List Jvm.Cond) (a : Array Jvm.Value) (st : Jvm.State) : (allAtoms ts).before a st = ts.all (fun c => c.before a st) := by
  induction ts with
  | nil => rfl
  | cons c t ih =>
    show (Jvm.Cond.and c (allAtoms t)).before a st = _
    rw [Jvm.Cond.before_and, ih, List.all_cons]
def words1 : List Jvm.Cond := Jvm.Cond.code x code maxLocals ret :: tables_1
/-- a 'code' word, met by the world's own term for the bytes: nothing is compared byte by byte -/
theorem code_word {y : MethodName} {bytes : ByteArray} {mx : Nat} {rt : Option FieldType} {a : Array Value} {s : State} {m : MethodId} {meth : Method} {c : Code} (h1 : s.methodNamed? y = some m) (h2 : s.vm.method? m = some meth) (h3 : meth.code = some c) (h4 : c.code = bytes)
    (h5 : (c.maxLocals == mx && c.exceptionTable.isEmpty && decide (c.maxStack ≤ mostOperands) && decide (meth.sig.returnType = rt) && !meth.locks && decide (parseMethodDescriptor y.desc = some meth.sig)) = true) : (Jvm.Cond.code y bytes mx rt).before a s = true := by
  simp only [Bool.and_eq_true, beq_iff_eq, Bool.not_eq_true', decide_eq_true_eq] at h5
  obtain ⟨⟨⟨⟨⟨g1, g2⟩, g3⟩, g4⟩, g5⟩, g6⟩ := h5
  simp [Cond.before, Cond.holds, Cond.value, h1, h2, h3, h4, g1, g2, g3, g4, g5, g6]
def isCode : Jvm.Cond → Bool
  | .code _ _ _ _ => true
  | _ => false
theorem all_split {L : List Jvm.Cond} {P : Jvm.Cond → Bool} (h1 : L.all (fun c => isCode c || P c) = true) (h2 : ∀ c ∈ L.filter isCode, P c = true) : L.all P = true := by
  refine List.all_eq_true.mpr fun c hc => ?_
  have h := List.all_eq_true.mp h1 c hc
  rcases Bool.eq_false_or_eq_true (isCode c) with hi | hi
  · exact h2 c (List.mem_filter.mpr ⟨hc, hi⟩)
  · simpa [hi] using h
set_option maxRecDepth 65536 in
theorem w_c0 : (Jvm.Cond.code x code maxLocals ret).before args0 about1 = true := code_word (m := ⟨1, 2⟩) (meth := k1m2) (c := k1c2) (by decide +kernel) rfl rfl rfl (by decide +kernel)
set_option maxRecDepth 65536 in
theorem w_c1 : (Jvm.Cond.code ({ cls := "com/example/variform/variform/variant/Utf8", name := "head", desc := "([B)J" } : Jvm.MethodName) prog_28_method_5_code (4 : Nat) (Option.some Jvm.ClassFile.FieldType.long)).before args0 about1 = true := code_word (m := ⟨2, 1⟩) (meth := k2m1) (c := k2c1) (by decide +kernel) rfl rfl rfl (by decide +kernel)
set_option maxRecDepth 65536 in
theorem w_c2 : (Jvm.Cond.code ({ cls := "com/example/variform/variform/variant/Utf8HeadPinLaw", name := "expected", desc := "(JI)J" } : Jvm.MethodName) method_2_code (3 : Nat) (Option.some Jvm.ClassFile.FieldType.long)).before args0 about1 = true := code_word (m := ⟨1, 1⟩) (meth := k1m1) (c := k1c1) (by decide +kernel) rfl rfl rfl (by decide +kernel)
def codes1 : List Jvm.Cond := [Jvm.Cond.code x code maxLocals ret, Jvm.Cond.code ({ cls := "com/example/variform/variform/variant/Utf8", name := "head", desc := "([B)J" } : Jvm.MethodName) prog_28_method_5_code (4 : Nat) (Option.some Jvm.ClassFile.FieldType.long), Jvm.Cond.code ({ cls := "com/example/variform/variform/variant/Utf8HeadPinLaw", name := "expected", desc := "(JI)J" } : Jvm.MethodName) method_2_code (3 : Nat) (Option.some Jvm.ClassFile.FieldType.long)]
set_option maxRecDepth 65536 in
theorem codes_eq : words1.filter isCode = codes1 := rfl
theorem w_codes : ∀ c ∈ words1.filter isCode, c.before args0 about1 = true := by
  rw [codes_eq]
  intro c hc
  simp only [codes1, List.mem_cons, List.not_mem_nil, or_false] at hc
  rcases hc with rfl | rfl | rfl
  · exact w_c0
  · exact w_c1
  · exact w_c2
set_option maxRecDepth 65536 in
theorem w_t1 : words1.all (fun c => isCode c || c.before args0 about1) = true := by decide +kernel
theorem w_tables : (allAtoms (Jvm.Cond.code x code maxLocals ret :: tables_1)).before args0 about1 = true := by
  rw [allAtoms_all]
  show words1.all (fun c => c.before args0 about1) = true
  refine all_split ?_ w_codes
  rw [w_t1]
set_option maxRecDepth 65536 in
theorem w_case : (Jvm.Cond.and given_1 narrow_1).before args0 about1 = true := by decide +kernel
theorem w_applies : (headSpec (Jvm.Cond.code x code maxLocals ret :: tables_1) room_1).applies x e0.platform about1 = true :=
  (Spec.applies_iff w_frames).mpr ⟨w_running, w_runnable, w_alone, w_named, w_hears, w_ripe, w_room, w_tables⟩
theorem atStart : AtStart classFile x code maxLocals ret World_1 tables_1 room_1 Calls_1 rest_1 Pre_1 launch0 p0 e0 about1 theMethod args0 below0 :=
  ⟨lists_1, trivial, launch0.admits_env _ _ _, launch0.least_env, fairChoices_fair.cas, fairChoices_fair.clock, w_frames, w_args, w_heap, w_applies, trivial, trivial, w_case⟩
end start1
theorem witness_1 : WitnessClaimed_1 := ⟨start1.p0, start1.e0, start1.about1, start1.theMethod, start1.args0, start1.below0, start1.atStart⟩
end Jvm.Pilot.@@N@@
