import JvmDerived
import JvmDerived.Pilot.@@N@@Statement
import JvmDerived.Pilot.@@N@@Code
set_option linter.unusedVariables false
set_option linter.unusedSimpArgs false
namespace Jvm.Pilot.@@N@@
open Jvm Jvm.ClassFile Sem Op Lib Jvm.Free Jvm.Stand Jvm.LawKit Jvm.RoadKit Bundle Jvm.Pilot.@@N@@.Jvm.D
section Layer
variable {p : Program} {l : Launch} {e : Env} {R : Room} {s : State} {m : MethodId} {args : Array Value} {below : List Frame} {meth : Method} {c : Code} {T : State} {locs : List Loc} {cells slots : Nat} {Q : Option Value → Heap → List Loc → Prop} {K N : Nat} {pc n : Nat} {Ls : Array Slot} {rest st : List Value} {Z : State} {a0 : Array Value} {h : Heap}
/-- from st on the invocation ends as Q says -/
def Goes (p : Program) (e : Env) (below : List Frame) (s : State) (Q : Option Value → Heap → List Loc → Prop) (K N : Nat) (st : State) : Prop :=
  ∃ s₂ o, Steps p.tables e below st s₂ ∧ s₂.status = .running ∧ Ended s₂ below o ∧ ∃ v L, o = .returned v ∧ Q v s₂.heap L ∧ FrameEnd s o s₂ L K N
theorem Goes.via {st st' : State} (g : Goes p e below s Q K N st') (h : ∀ t, Steps p.tables e below st' t → Steps p.tables e below st t) : Goes p e below s Q K N st := by
  obtain ⟨s₂, o, h1, r⟩ := g
  exact ⟨s₂, o, h _ h1, r⟩
/-- a body's contract -/
def Does (l : Launch) (Z : State) (y : MethodName) (bytes : ByteArray) (maxL : Nat) (ret : Option FieldType) (ws : List Jvm.Cond) (rm : Room) (as : Array Value) (h : Heap) (Q : Option Value → Heap → List Loc → Prop) : Prop :=
  MetFree l y (head1 (Jvm.Cond.code y bytes maxL ret :: ws) rm) (fun a U => a = as ∧ Z.Warmed39 U.vm ∧ U.heap = h) (fun _ _ _ _ _ => True) (fun _ U o U' => ∃ v L, o = .returned v ∧ Q v U'.heap L ∧ FrameEnd U o U' L rm.cells rm.slots)
theorem Does.of {y : MethodName} {bytes : ByteArray} {maxL : Nat} {ret : Option FieldType} {ws : List Jvm.Cond} {rm : Room} {as : Array Value} (hpl : plainFor y = true)
    (body : ∀ (p : Program) (e : Env) (s : State) (m : MethodId) (below : List Frame) (meth : Method) (c : Code) (T : State), p.tables.exec = Jvm.exec → c.code = bytes → c.maxLocals = maxL → s.vm.findClass y.cls = some m.cls → meth.name = y.name → meth.sig.returnType = ret → meth.locks = false → Z.Warmed39 s.vm → Stand p l e rm s m as below meth c T [] 0 0 → T.heap = h → Goes p e below s Q rm.cells rm.slots (T.setTop (entryFrame m as maxL))) : Does l Z y bytes maxL ret ws rm as h Q := by
  refine MetFree.of_bodySF hpl hisR ?_
  intro p e s m args below meth c s₁ Bd hml0 hP hK
  obtain ⟨rfl, hZ, hh⟩ := hP
  have X0 : Stand p l e rm s m args below meth c s₁ [] 0 0 := Stand.of_body Bd
  exact body p e s m below meth c s₁ Bd.exec Bd.bytes hml0 (findClass_of_methodNamed Bd.named) (name_of_methodNamed Bd.named Bd.method).1 Bd.returns Bd.notSynchronized hZ X0 (by rw [← hh, Bd.state]; rfl)
theorem o_entry {as : Array Value} {maxL : Nat} (q : entryFrame m as maxL = mkF m 0 Ls []) (g : Goes p e below s Q K N (T.setTop (mkF m 0 Ls []))) : Goes p e below s Q K N (T.setTop (entryFrame m as maxL)) := q ▸ g
theorem o_iload (X : Stand p l e R s m args below meth c T locs cells slots) (hx : p.tables.exec = Jvm.exec) {j : Nat} {v : Int32} (hd : decode c.code pc = .ok (.iload j, 2)) (hl : Ls[j]? = some (.val (.int v))) (hn : pc + 2 = n) (g : Goes p e below s Q K N (T.setTop (mkF m n Ls (.int v :: st)))) : Goes p e below s Q K N (T.setTop (mkF m pc Ls st)) := by
  subst hn
  exact g.via fun t k => XS.iload X.here hx rfl hd hl k
theorem o_iloadN (X : Stand p l e R s m args below meth c T locs cells slots) (hx : p.tables.exec = Jvm.exec) {j : Fin 4} {v : Int32} (hd : decode c.code pc = .ok (.iload_n j, 1)) (hl : Ls[j.val]? = some (.val (.int v))) (hn : pc + 1 = n) (g : Goes p e below s Q K N (T.setTop (mkF m n Ls (.int v :: st)))) : Goes p e below s Q K N (T.setTop (mkF m pc Ls st)) := by
  subst hn
  exact g.via fun t k => XS.iloadN X.here hx rfl hd hl k
theorem o_lload (X : Stand p l e R s m args below meth c T locs cells slots) (hx : p.tables.exec = Jvm.exec) {j : Nat} {v : Int64} (hd : decode c.code pc = .ok (.lload j, 2)) (hl : Ls[j]? = some (.val (.long v))) (hn : pc + 2 = n) (g : Goes p e below s Q K N (T.setTop (mkF m n Ls (.long v :: st)))) : Goes p e below s Q K N (T.setTop (mkF m pc Ls st)) := by
  subst hn
  exact g.via fun t k => XS.lload X.here hx rfl hd hl k
theorem o_lloadN (X : Stand p l e R s m args below meth c T locs cells slots) (hx : p.tables.exec = Jvm.exec) {j : Fin 4} {v : Int64} (hd : decode c.code pc = .ok (.lload_n j, 1)) (hl : Ls[j.val]? = some (.val (.long v))) (hn : pc + 1 = n) (g : Goes p e below s Q K N (T.setTop (mkF m n Ls (.long v :: st)))) : Goes p e below s Q K N (T.setTop (mkF m pc Ls st)) := by
  subst hn
  exact g.via fun t k => XS.lloadN X.here hx rfl hd hl k
theorem o_aload (X : Stand p l e R s m args below meth c T locs cells slots) (hx : p.tables.exec = Jvm.exec) {j : Nat} {v : Value} (hd : decode c.code pc = .ok (.aload j, 2)) (hl : Ls[j]? = some (.val v)) (hv : v.isRef = true) (hn : pc + 2 = n) (g : Goes p e below s Q K N (T.setTop (mkF m n Ls (v :: st)))) : Goes p e below s Q K N (T.setTop (mkF m pc Ls st)) := by
  subst hn
  exact g.via fun t k => XS.aload X.here hx rfl hd hl hv k
theorem o_aloadN (X : Stand p l e R s m args below meth c T locs cells slots) (hx : p.tables.exec = Jvm.exec) {j : Fin 4} {v : Value} (hd : decode c.code pc = .ok (.aload_n j, 1)) (hl : Ls[j.val]? = some (.val v)) (hv : v.isRef = true) (hn : pc + 1 = n) (g : Goes p e below s Q K N (T.setTop (mkF m n Ls (v :: st)))) : Goes p e below s Q K N (T.setTop (mkF m pc Ls st)) := by
  subst hn
  exact g.via fun t k => XS.aloadN X.here hx rfl hd hl hv k
theorem o_istore (X : Stand p l e R s m args below meth c T locs cells slots) (hx : p.tables.exec = Jvm.exec) {j : Nat} {v : Int32} {Ls' : Array Slot} (hd : decode c.code pc = .ok (.istore j, 2)) (hl : storeLocals Ls j (.int v) = some Ls') (hn : pc + 2 = n) (g : Goes p e below s Q K N (T.setTop (mkF m n Ls' rest))) : Goes p e below s Q K N (T.setTop (mkF m pc Ls (.int v :: rest))) := by
  subst hn
  exact g.via fun t k => XS.istore X.here hx rfl hd rfl hl k
theorem o_istoreN (X : Stand p l e R s m args below meth c T locs cells slots) (hx : p.tables.exec = Jvm.exec) {j : Fin 4} {v : Int32} {Ls' : Array Slot} (hd : decode c.code pc = .ok (.istore_n j, 1)) (hl : storeLocals Ls j.val (.int v) = some Ls') (hn : pc + 1 = n) (g : Goes p e below s Q K N (T.setTop (mkF m n Ls' rest))) : Goes p e below s Q K N (T.setTop (mkF m pc Ls (.int v :: rest))) := by
  subst hn
  exact g.via fun t k => XS.istoreN X.here hx rfl hd rfl hl k
theorem o_lstore (X : Stand p l e R s m args below meth c T locs cells slots) (hx : p.tables.exec = Jvm.exec) {j : Nat} {v : Int64} {Ls' : Array Slot} (hd : decode c.code pc = .ok (.lstore j, 2)) (hl : storeLocals Ls j (.long v) = some Ls') (hn : pc + 2 = n) (g : Goes p e below s Q K N (T.setTop (mkF m n Ls' rest))) : Goes p e below s Q K N (T.setTop (mkF m pc Ls (.long v :: rest))) := by
  subst hn
  exact g.via fun t k => XS.lstore X.here hx rfl hd rfl hl k
theorem o_lstoreN (X : Stand p l e R s m args below meth c T locs cells slots) (hx : p.tables.exec = Jvm.exec) {j : Fin 4} {v : Int64} {Ls' : Array Slot} (hd : decode c.code pc = .ok (.lstore_n j, 1)) (hl : storeLocals Ls j.val (.long v) = some Ls') (hn : pc + 1 = n) (g : Goes p e below s Q K N (T.setTop (mkF m n Ls' rest))) : Goes p e below s Q K N (T.setTop (mkF m pc Ls (.long v :: rest))) := by
  subst hn
  exact g.via fun t k => XS.lstoreN X.here hx rfl hd rfl hl k
theorem o_astore (X : Stand p l e R s m args below meth c T locs cells slots) (hx : p.tables.exec = Jvm.exec) {j : Nat} {v : Value} {Ls' : Array Slot} (hd : decode c.code pc = .ok (.astore j, 2)) (hv : v.isRef = true) (hl : storeLocals Ls j v = some Ls') (hn : pc + 2 = n) (g : Goes p e below s Q K N (T.setTop (mkF m n Ls' rest))) : Goes p e below s Q K N (T.setTop (mkF m pc Ls (v :: rest))) := by
  subst hn
  exact g.via fun t k => XS.astore X.here hx rfl hd rfl hv hl k
theorem o_astoreN (X : Stand p l e R s m args below meth c T locs cells slots) (hx : p.tables.exec = Jvm.exec) {j : Fin 4} {v : Value} {Ls' : Array Slot} (hd : decode c.code pc = .ok (.astore_n j, 1)) (hv : v.isRef = true) (hl : storeLocals Ls j.val v = some Ls') (hn : pc + 1 = n) (g : Goes p e below s Q K N (T.setTop (mkF m n Ls' rest))) : Goes p e below s Q K N (T.setTop (mkF m pc Ls (v :: rest))) := by
  subst hn
  exact g.via fun t k => XS.astoreN X.here hx rfl hd rfl hv hl k
theorem o_iinc (X : Stand p l e R s m args below meth c T locs cells slots) (hx : p.tables.exec = Jvm.exec) {j : Nat} {cst : Int} {x w : Int32} {Ls' : Array Slot} (hd : decode c.code pc = .ok (.iinc j cst, 3)) (hl : Ls[j]? = some (.val (.int x))) (hw : x + Int32.ofInt cst = w) (hl' : storeLocals Ls j (.int w) = some Ls') (hn : pc + 3 = n) (g : Goes p e below s Q K N (T.setTop (mkF m n Ls' st))) : Goes p e below s Q K N (T.setTop (mkF m pc Ls st)) := by
  subst hn
  exact g.via fun t k => XS.iinc X.here hx rfl hd hl (by rw [hw]; exact hl') k
theorem o_iconst (X : Stand p l e R s m args below meth c T locs cells slots) (hx : p.tables.exec = Jvm.exec) {i : Int} {v : Int32} (hd : decode c.code pc = .ok (.iconst i, 1)) (hv : Int32.ofInt i = v) (hn : pc + 1 = n) (g : Goes p e below s Q K N (T.setTop (mkF m n Ls (.int v :: st)))) : Goes p e below s Q K N (T.setTop (mkF m pc Ls st)) := by
  subst hn hv
  exact g.via fun t k => XS.iconst X.here hx rfl hd k
theorem o_bipush (X : Stand p l e R s m args below meth c T locs cells slots) (hx : p.tables.exec = Jvm.exec) {i : Int} {v : Int32} (hd : decode c.code pc = .ok (.bipush i, 2)) (hv : (Int8.ofInt i).toInt32 = v) (hn : pc + 2 = n) (g : Goes p e below s Q K N (T.setTop (mkF m n Ls (.int v :: st)))) : Goes p e below s Q K N (T.setTop (mkF m pc Ls st)) := by
  subst hn hv
  exact g.via fun t k => XS.bipush X.here hx rfl hd k
theorem o_sipush (X : Stand p l e R s m args below meth c T locs cells slots) (hx : p.tables.exec = Jvm.exec) {i : Int} {v : Int32} (hd : decode c.code pc = .ok (.sipush i, 3)) (hv : (Int16.ofInt i).toInt32 = v) (hn : pc + 3 = n) (g : Goes p e below s Q K N (T.setTop (mkF m n Ls (.int v :: st)))) : Goes p e below s Q K N (T.setTop (mkF m pc Ls st)) := by
  subst hn hv
  exact g.via fun t k => XS.sipush X.here hx rfl hd k
theorem o_lconst (X : Stand p l e R s m args below meth c T locs cells slots) (hx : p.tables.exec = Jvm.exec) {j : Fin 2} {v : Int64} (hd : decode c.code pc = .ok (.lconst j, 1)) (hv : Int64.ofNat j = v) (hn : pc + 1 = n) (g : Goes p e below s Q K N (T.setTop (mkF m n Ls (.long v :: st)))) : Goes p e below s Q K N (T.setTop (mkF m pc Ls st)) := by
  subst hn hv
  exact g.via fun t k => XS.lconst X.here hx rfl hd k
theorem o_aconst_null (X : Stand p l e R s m args below meth c T locs cells slots) (hx : p.tables.exec = Jvm.exec)  (hd : decode c.code pc = .ok (.aconst_null, 1)) (hn : pc + 1 = n) (g : Goes p e below s Q K N (T.setTop (mkF m n Ls (.null :: st)))) : Goes p e below s Q K N (T.setTop (mkF m pc Ls st)) := by
  subst hn
  exact g.via fun t k => XS.aconstNull X.here hx rfl hd k
theorem o_ldc (X : Stand p l e R s m args below meth c T locs cells slots) (hx : p.tables.exec = Jvm.exec)  (hZ : Z.Warmed39 s.vm) {own : String} {index : Nat} {v : Int32} (hown : s.vm.findClass own = some m.cls) (w : (Jvm.Cond.constant own index v).before a0 Z = true) (hd : decode c.code pc = .ok (.ldc index, 2)) (hn : pc + 2 = n) (g : Goes p e below s Q K N (T.setTop (mkF m n Ls (.int v :: st)))) : Goes p e below s Q K N (T.setTop (mkF m pc Ls st)) := by
  subst hn
  exact g.via fun t k => X.ldcInt hx hown (mvT hZ w) (g := mkF m pc Ls st) rfl hd t k
theorem o_ldc_w (X : Stand p l e R s m args below meth c T locs cells slots) (hx : p.tables.exec = Jvm.exec)  (hZ : Z.Warmed39 s.vm) {own : String} {index : Nat} {v : Int32} (hown : s.vm.findClass own = some m.cls) (w : (Jvm.Cond.constant own index v).before a0 Z = true) (hd : decode c.code pc = .ok (.ldc_w index, 3)) (hn : pc + 3 = n) (g : Goes p e below s Q K N (T.setTop (mkF m n Ls (.int v :: st)))) : Goes p e below s Q K N (T.setTop (mkF m pc Ls st)) := by
  subst hn
  exact g.via fun t k => X.ldcWInt hx hown (mvT hZ w) (g := mkF m pc Ls st) rfl hd t k
theorem o_ldc2_w (X : Stand p l e R s m args below meth c T locs cells slots) (hx : p.tables.exec = Jvm.exec)  (hZ : Z.Warmed39 s.vm) {own : String} {index : Nat} {v : Int64} (hown : s.vm.findClass own = some m.cls) (w : (Jvm.Cond.constantLong own index v).before a0 Z = true) (hd : decode c.code pc = .ok (.ldc2_w index, 3)) (hn : pc + 3 = n) (g : Goes p e below s Q K N (T.setTop (mkF m n Ls (.long v :: st)))) : Goes p e below s Q K N (T.setTop (mkF m pc Ls st)) := by
  subst hn
  exact g.via fun t k => X.ldc2Long hx hown (mvT hZ w) (g := mkF m pc Ls st) rfl hd t k
theorem o_iadd (X : Stand p l e R s m args below meth c T locs cells slots) (hx : p.tables.exec = Jvm.exec) {x y v : Int32} (hd : decode c.code pc = .ok (.iadd, 1)) (hv : x + y = v) (hn : pc + 1 = n) (g : Goes p e below s Q K N (T.setTop (mkF m n Ls (.int v :: rest)))) : Goes p e below s Q K N (T.setTop (mkF m pc Ls (.int y :: .int x :: rest))) := by
  subst hn hv
  exact g.via fun t k => XS.iadd X.here hx rfl hd rfl k
theorem o_isub (X : Stand p l e R s m args below meth c T locs cells slots) (hx : p.tables.exec = Jvm.exec) {x y v : Int32} (hd : decode c.code pc = .ok (.isub, 1)) (hv : x - y = v) (hn : pc + 1 = n) (g : Goes p e below s Q K N (T.setTop (mkF m n Ls (.int v :: rest)))) : Goes p e below s Q K N (T.setTop (mkF m pc Ls (.int y :: .int x :: rest))) := by
  subst hn hv
  exact g.via fun t k => XS.isub X.here hx rfl hd rfl k
theorem o_imul (X : Stand p l e R s m args below meth c T locs cells slots) (hx : p.tables.exec = Jvm.exec) {x y v : Int32} (hd : decode c.code pc = .ok (.imul, 1)) (hv : x * y = v) (hn : pc + 1 = n) (g : Goes p e below s Q K N (T.setTop (mkF m n Ls (.int v :: rest)))) : Goes p e below s Q K N (T.setTop (mkF m pc Ls (.int y :: .int x :: rest))) := by
  subst hn hv
  exact g.via fun t k => XS.imul X.here hx rfl hd rfl k
theorem o_iand (X : Stand p l e R s m args below meth c T locs cells slots) (hx : p.tables.exec = Jvm.exec) {x y v : Int32} (hd : decode c.code pc = .ok (.iand, 1)) (hv : x &&& y = v) (hn : pc + 1 = n) (g : Goes p e below s Q K N (T.setTop (mkF m n Ls (.int v :: rest)))) : Goes p e below s Q K N (T.setTop (mkF m pc Ls (.int y :: .int x :: rest))) := by
  subst hn hv
  exact g.via fun t k => XS.iand X.here hx rfl hd rfl k
theorem o_ior (X : Stand p l e R s m args below meth c T locs cells slots) (hx : p.tables.exec = Jvm.exec) {x y v : Int32} (hd : decode c.code pc = .ok (.ior, 1)) (hv : x ||| y = v) (hn : pc + 1 = n) (g : Goes p e below s Q K N (T.setTop (mkF m n Ls (.int v :: rest)))) : Goes p e below s Q K N (T.setTop (mkF m pc Ls (.int y :: .int x :: rest))) := by
  subst hn hv
  exact g.via fun t k => XS.ior X.here hx rfl hd rfl k
theorem o_ixor (X : Stand p l e R s m args below meth c T locs cells slots) (hx : p.tables.exec = Jvm.exec) {x y v : Int32} (hd : decode c.code pc = .ok (.ixor, 1)) (hv : x ^^^ y = v) (hn : pc + 1 = n) (g : Goes p e below s Q K N (T.setTop (mkF m n Ls (.int v :: rest)))) : Goes p e below s Q K N (T.setTop (mkF m pc Ls (.int y :: .int x :: rest))) := by
  subst hn hv
  exact g.via fun t k => XS.ixor X.here hx rfl hd rfl k
theorem o_ladd (X : Stand p l e R s m args below meth c T locs cells slots) (hx : p.tables.exec = Jvm.exec) {x y v : Int64} (hd : decode c.code pc = .ok (.ladd, 1)) (hv : x + y = v) (hn : pc + 1 = n) (g : Goes p e below s Q K N (T.setTop (mkF m n Ls (.long v :: rest)))) : Goes p e below s Q K N (T.setTop (mkF m pc Ls (.long y :: .long x :: rest))) := by
  subst hn hv
  exact g.via fun t k => XS.ladd X.here hx rfl hd rfl k
theorem o_lsub (X : Stand p l e R s m args below meth c T locs cells slots) (hx : p.tables.exec = Jvm.exec) {x y v : Int64} (hd : decode c.code pc = .ok (.lsub, 1)) (hv : x - y = v) (hn : pc + 1 = n) (g : Goes p e below s Q K N (T.setTop (mkF m n Ls (.long v :: rest)))) : Goes p e below s Q K N (T.setTop (mkF m pc Ls (.long y :: .long x :: rest))) := by
  subst hn hv
  exact g.via fun t k => XS.lsub X.here hx rfl hd rfl k
theorem o_lmul (X : Stand p l e R s m args below meth c T locs cells slots) (hx : p.tables.exec = Jvm.exec) {x y v : Int64} (hd : decode c.code pc = .ok (.lmul, 1)) (hv : x * y = v) (hn : pc + 1 = n) (g : Goes p e below s Q K N (T.setTop (mkF m n Ls (.long v :: rest)))) : Goes p e below s Q K N (T.setTop (mkF m pc Ls (.long y :: .long x :: rest))) := by
  subst hn hv
  exact g.via fun t k => XS.lmul X.here hx rfl hd rfl k
theorem o_land (X : Stand p l e R s m args below meth c T locs cells slots) (hx : p.tables.exec = Jvm.exec) {x y v : Int64} (hd : decode c.code pc = .ok (.land, 1)) (hv : x &&& y = v) (hn : pc + 1 = n) (g : Goes p e below s Q K N (T.setTop (mkF m n Ls (.long v :: rest)))) : Goes p e below s Q K N (T.setTop (mkF m pc Ls (.long y :: .long x :: rest))) := by
  subst hn hv
  exact g.via fun t k => XS.land X.here hx rfl hd rfl k
theorem o_lor (X : Stand p l e R s m args below meth c T locs cells slots) (hx : p.tables.exec = Jvm.exec) {x y v : Int64} (hd : decode c.code pc = .ok (.lor, 1)) (hv : x ||| y = v) (hn : pc + 1 = n) (g : Goes p e below s Q K N (T.setTop (mkF m n Ls (.long v :: rest)))) : Goes p e below s Q K N (T.setTop (mkF m pc Ls (.long y :: .long x :: rest))) := by
  subst hn hv
  exact g.via fun t k => XS.lor X.here hx rfl hd rfl k
theorem o_lxor (X : Stand p l e R s m args below meth c T locs cells slots) (hx : p.tables.exec = Jvm.exec) {x y v : Int64} (hd : decode c.code pc = .ok (.lxor, 1)) (hv : x ^^^ y = v) (hn : pc + 1 = n) (g : Goes p e below s Q K N (T.setTop (mkF m n Ls (.long v :: rest)))) : Goes p e below s Q K N (T.setTop (mkF m pc Ls (.long y :: .long x :: rest))) := by
  subst hn hv
  exact g.via fun t k => XS.lxor X.here hx rfl hd rfl k
theorem o_idiv (X : Stand p l e R s m args below meth c T locs cells slots) (hx : p.tables.exec = Jvm.exec) {x y v : Int32} (hd : decode c.code pc = .ok (.idiv, 1)) (hy : y ≠ 0) (hv : x / y = v) (hn : pc + 1 = n) (g : Goes p e below s Q K N (T.setTop (mkF m n Ls (.int v :: rest)))) : Goes p e below s Q K N (T.setTop (mkF m pc Ls (.int y :: .int x :: rest))) := by
  subst hn hv
  exact g.via fun t k => XS.idiv X.here hx rfl hd rfl hy k
theorem o_irem (X : Stand p l e R s m args below meth c T locs cells slots) (hx : p.tables.exec = Jvm.exec) {x y v : Int32} (hd : decode c.code pc = .ok (.irem, 1)) (hy : y ≠ 0) (hv : x % y = v) (hn : pc + 1 = n) (g : Goes p e below s Q K N (T.setTop (mkF m n Ls (.int v :: rest)))) : Goes p e below s Q K N (T.setTop (mkF m pc Ls (.int y :: .int x :: rest))) := by
  subst hn hv
  exact g.via fun t k => iremM X hx (g := mkF m pc Ls _) rfl hd rfl hy k
theorem o_ldiv (X : Stand p l e R s m args below meth c T locs cells slots) (hx : p.tables.exec = Jvm.exec) {x y v : Int64} (hd : decode c.code pc = .ok (.ldiv, 1)) (hy : y ≠ 0) (hv : x / y = v) (hn : pc + 1 = n) (g : Goes p e below s Q K N (T.setTop (mkF m n Ls (.long v :: rest)))) : Goes p e below s Q K N (T.setTop (mkF m pc Ls (.long y :: .long x :: rest))) := by
  subst hn hv
  exact g.via fun t k => XS.ldiv X.here hx rfl hd rfl hy k
theorem o_lrem (X : Stand p l e R s m args below meth c T locs cells slots) (hx : p.tables.exec = Jvm.exec) {x y v : Int64} (hd : decode c.code pc = .ok (.lrem, 1)) (hy : y ≠ 0) (hv : x % y = v) (hn : pc + 1 = n) (g : Goes p e below s Q K N (T.setTop (mkF m n Ls (.long v :: rest)))) : Goes p e below s Q K N (T.setTop (mkF m pc Ls (.long y :: .long x :: rest))) := by
  subst hn hv
  exact g.via fun t k => XS.lrem X.here hx rfl hd rfl hy (by rw [lrem_mod]; exact k)
theorem o_ishl (X : Stand p l e R s m args below meth c T locs cells slots) (hx : p.tables.exec = Jvm.exec) {x y v : Int32} (hd : decode c.code pc = .ok (.ishl, 1)) (hv : x <<< (y &&& 31) = v) (hn : pc + 1 = n) (g : Goes p e below s Q K N (T.setTop (mkF m n Ls (.int v :: rest)))) : Goes p e below s Q K N (T.setTop (mkF m pc Ls (.int y :: .int x :: rest))) := by
  subst hn hv
  exact g.via fun t k => XS.ishl X.here hx rfl hd rfl k
theorem o_ishr (X : Stand p l e R s m args below meth c T locs cells slots) (hx : p.tables.exec = Jvm.exec) {x y v : Int32} (hd : decode c.code pc = .ok (.ishr, 1)) (hv : x >>> (y &&& 31) = v) (hn : pc + 1 = n) (g : Goes p e below s Q K N (T.setTop (mkF m n Ls (.int v :: rest)))) : Goes p e below s Q K N (T.setTop (mkF m pc Ls (.int y :: .int x :: rest))) := by
  subst hn hv
  exact g.via fun t k => XS.ishr X.here hx rfl hd rfl k
theorem o_iushr (X : Stand p l e R s m args below meth c T locs cells slots) (hx : p.tables.exec = Jvm.exec) {x y v : Int32} (hd : decode c.code pc = .ok (.iushr, 1)) (hv : (x.toUInt32 >>> (y &&& 31).toUInt32).toInt32 = v) (hn : pc + 1 = n) (g : Goes p e below s Q K N (T.setTop (mkF m n Ls (.int v :: rest)))) : Goes p e below s Q K N (T.setTop (mkF m pc Ls (.int y :: .int x :: rest))) := by
  subst hn hv
  exact g.via fun t k => XS.iushr X.here hx rfl hd rfl k
theorem o_lshl (X : Stand p l e R s m args below meth c T locs cells slots) (hx : p.tables.exec = Jvm.exec) {x v : Int64} {y : Int32} (hd : decode c.code pc = .ok (.lshl, 1)) (hv : x <<< (y &&& 0x3f).toInt64 = v) (hn : pc + 1 = n) (g : Goes p e below s Q K N (T.setTop (mkF m n Ls (.long v :: rest)))) : Goes p e below s Q K N (T.setTop (mkF m pc Ls (.int y :: .long x :: rest))) := by
  subst hn hv
  exact g.via fun t k => XS.lshl X.here hx rfl hd rfl k
theorem o_lshr (X : Stand p l e R s m args below meth c T locs cells slots) (hx : p.tables.exec = Jvm.exec) {x v : Int64} {y : Int32} (hd : decode c.code pc = .ok (.lshr, 1)) (hv : x >>> (y &&& 0x3f).toInt64 = v) (hn : pc + 1 = n) (g : Goes p e below s Q K N (T.setTop (mkF m n Ls (.long v :: rest)))) : Goes p e below s Q K N (T.setTop (mkF m pc Ls (.int y :: .long x :: rest))) := by
  subst hn hv
  exact g.via fun t k => XS.lshr X.here hx rfl hd rfl k
theorem o_lushr (X : Stand p l e R s m args below meth c T locs cells slots) (hx : p.tables.exec = Jvm.exec) {x v : Int64} {y : Int32} (hd : decode c.code pc = .ok (.lushr, 1)) (hv : (x.toUInt64 >>> (y &&& 0x3f).toInt64.toUInt64).toInt64 = v) (hn : pc + 1 = n) (g : Goes p e below s Q K N (T.setTop (mkF m n Ls (.long v :: rest)))) : Goes p e below s Q K N (T.setTop (mkF m pc Ls (.int y :: .long x :: rest))) := by
  subst hn hv
  exact g.via fun t k => XS.lushr X.here hx rfl hd rfl k
theorem o_i2l (X : Stand p l e R s m args below meth c T locs cells slots) (hx : p.tables.exec = Jvm.exec) {x : Int32} {v : Int64} (hd : decode c.code pc = .ok (.i2l, 1)) (hv : x.toInt64 = v) (hn : pc + 1 = n) (g : Goes p e below s Q K N (T.setTop (mkF m n Ls (.long v :: rest)))) : Goes p e below s Q K N (T.setTop (mkF m pc Ls (.int x :: rest))) := by
  subst hn hv
  exact g.via fun t k => XS.i2l X.here hx rfl hd rfl k
theorem o_l2i (X : Stand p l e R s m args below meth c T locs cells slots) (hx : p.tables.exec = Jvm.exec) {x : Int64} {v : Int32} (hd : decode c.code pc = .ok (.l2i, 1)) (hv : x.toInt32 = v) (hn : pc + 1 = n) (g : Goes p e below s Q K N (T.setTop (mkF m n Ls (.int v :: rest)))) : Goes p e below s Q K N (T.setTop (mkF m pc Ls (.long x :: rest))) := by
  subst hn hv
  exact g.via fun t k => XS.l2i X.here hx rfl hd rfl k
theorem o_i2b (X : Stand p l e R s m args below meth c T locs cells slots) (hx : p.tables.exec = Jvm.exec) {x : Int32} {v : Int32} (hd : decode c.code pc = .ok (.i2b, 1)) (hv : x.toInt8.toInt32 = v) (hn : pc + 1 = n) (g : Goes p e below s Q K N (T.setTop (mkF m n Ls (.int v :: rest)))) : Goes p e below s Q K N (T.setTop (mkF m pc Ls (.int x :: rest))) := by
  subst hn hv
  exact g.via fun t k => XS.i2b X.here hx rfl hd rfl k
theorem o_i2c (X : Stand p l e R s m args below meth c T locs cells slots) (hx : p.tables.exec = Jvm.exec) {x : Int32} {v : Int32} (hd : decode c.code pc = .ok (.i2c, 1)) (hv : x.toUInt32.toUInt16.toUInt32.toInt32 = v) (hn : pc + 1 = n) (g : Goes p e below s Q K N (T.setTop (mkF m n Ls (.int v :: rest)))) : Goes p e below s Q K N (T.setTop (mkF m pc Ls (.int x :: rest))) := by
  subst hn hv
  exact g.via fun t k => XS.i2c X.here hx rfl hd rfl k
theorem o_i2s (X : Stand p l e R s m args below meth c T locs cells slots) (hx : p.tables.exec = Jvm.exec) {x : Int32} {v : Int32} (hd : decode c.code pc = .ok (.i2s, 1)) (hv : x.toInt16.toInt32 = v) (hn : pc + 1 = n) (g : Goes p e below s Q K N (T.setTop (mkF m n Ls (.int v :: rest)))) : Goes p e below s Q K N (T.setTop (mkF m pc Ls (.int x :: rest))) := by
  subst hn hv
  exact g.via fun t k => XS.i2s X.here hx rfl hd rfl k
theorem o_ineg (X : Stand p l e R s m args below meth c T locs cells slots) (hx : p.tables.exec = Jvm.exec) {x : Int32} {v : Int32} (hd : decode c.code pc = .ok (.ineg, 1)) (hv : -x = v) (hn : pc + 1 = n) (g : Goes p e below s Q K N (T.setTop (mkF m n Ls (.int v :: rest)))) : Goes p e below s Q K N (T.setTop (mkF m pc Ls (.int x :: rest))) := by
  subst hn hv
  exact g.via fun t k => XS.ineg X.here hx rfl hd rfl k
theorem o_lneg (X : Stand p l e R s m args below meth c T locs cells slots) (hx : p.tables.exec = Jvm.exec) {x : Int64} {v : Int64} (hd : decode c.code pc = .ok (.lneg, 1)) (hv : -x = v) (hn : pc + 1 = n) (g : Goes p e below s Q K N (T.setTop (mkF m n Ls (.long v :: rest)))) : Goes p e below s Q K N (T.setTop (mkF m pc Ls (.long x :: rest))) := by
  subst hn hv
  exact g.via fun t k => XS.lneg X.here hx rfl hd rfl k
theorem o_lcmp (X : Stand p l e R s m args below meth c T locs cells slots) (hx : p.tables.exec = Jvm.exec) {x y : Int64} (hd : decode c.code pc = .ok (.lcmp, 1)) (hn : pc + 1 = n) (g : Goes p e below s Q K N (T.setTop (mkF m n Ls (.int (XT.cmpL x y) :: rest)))) : Goes p e below s Q K N (T.setTop (mkF m pc Ls (.long y :: .long x :: rest))) := by
  subst hn
  exact g.via fun t k => XT.lcmp X.here hx rfl hd rfl k
theorem o_dup (X : Stand p l e R s m args below meth c T locs cells slots) (hx : p.tables.exec = Jvm.exec) {v : Value} (hd : decode c.code pc = .ok (.dup, 1)) (hv : v.category = 1) (hn : pc + 1 = n) (g : Goes p e below s Q K N (T.setTop (mkF m n Ls (v :: v :: rest)))) : Goes p e below s Q K N (T.setTop (mkF m pc Ls (v :: rest))) := by
  subst hn
  exact g.via fun t k => XS.dup X.here hx rfl hd rfl hv k
theorem o_dup_x1 (X : Stand p l e R s m args below meth c T locs cells slots) (hx : p.tables.exec = Jvm.exec) {v w : Value} (hd : decode c.code pc = .ok (.dup_x1, 1)) (hv : v.category = 1) (hw : w.category = 1) (hn : pc + 1 = n) (g : Goes p e below s Q K N (T.setTop (mkF m n Ls (v :: w :: v :: rest)))) : Goes p e below s Q K N (T.setTop (mkF m pc Ls (v :: w :: rest))) := by
  subst hn
  exact g.via fun t k => XS.dupX1 X.here hx rfl hd rfl hv hw k
theorem o_dup2 (X : Stand p l e R s m args below meth c T locs cells slots) (hx : p.tables.exec = Jvm.exec) {v w : Value} (hd : decode c.code pc = .ok (.dup2, 1)) (hv : v.category = 1) (hw : w.category = 1) (hn : pc + 1 = n) (g : Goes p e below s Q K N (T.setTop (mkF m n Ls (v :: w :: v :: w :: rest)))) : Goes p e below s Q K N (T.setTop (mkF m pc Ls (v :: w :: rest))) := by
  subst hn
  exact g.via fun t k => XT.dup2 X.here hx rfl hd rfl hv hw k
theorem o_pop (X : Stand p l e R s m args below meth c T locs cells slots) (hx : p.tables.exec = Jvm.exec) {v : Value} (hd : decode c.code pc = .ok (.pop, 1)) (hv : v.category = 1) (hn : pc + 1 = n) (g : Goes p e below s Q K N (T.setTop (mkF m n Ls rest))) : Goes p e below s Q K N (T.setTop (mkF m pc Ls (v :: rest))) := by
  subst hn
  exact g.via fun t k => XS.pop X.here hx rfl hd rfl hv k
theorem o_goto (X : Stand p l e R s m args below meth c T locs cells slots) (hx : p.tables.exec = Jvm.exec) {o : Int} (hd : decode c.code pc = .ok (.goto o, 3)) (ho : 0 ≤ (pc : Int) + o) (hn : ((pc : Int) + o).toNat = n) (g : Goes p e below s Q K N (T.setTop (mkF m n Ls st))) : Goes p e below s Q K N (T.setTop (mkF m pc Ls st)) := by
  exact g.via fun t k => XS.goto X.here hx rfl rfl hd ho hn k
theorem o_ifY (X : Stand p l e R s m args below meth c T locs cells slots) (hx : p.tables.exec = Jvm.exec) {cd : ClassFile.Cond} {x : Int32} {o : Int} (hd : decode c.code pc = .ok (.ifCond cd o, 3)) (hc : ifCond.holds cd x = true) (ho : 0 ≤ (pc : Int) + o) (hn : ((pc : Int) + o).toNat = n) (g : Goes p e below s Q K N (T.setTop (mkF m n Ls rest))) : Goes p e below s Q K N (T.setTop (mkF m pc Ls (.int x :: rest))) := by
  exact g.via fun t k => XS.ifYes X.here hx rfl rfl hd rfl hc ho hn k
theorem o_ifN (X : Stand p l e R s m args below meth c T locs cells slots) (hx : p.tables.exec = Jvm.exec) {cd : ClassFile.Cond} {x : Int32} {o : Int} (hd : decode c.code pc = .ok (.ifCond cd o, 3)) (hc : ifCond.holds cd x = false) (hn : pc + 3 = n) (g : Goes p e below s Q K N (T.setTop (mkF m n Ls rest))) : Goes p e below s Q K N (T.setTop (mkF m pc Ls (.int x :: rest))) := by
  subst hn
  exact g.via fun t k => XS.ifNo X.here hx rfl hd rfl hc k
theorem o_icmpY (X : Stand p l e R s m args below meth c T locs cells slots) (hx : p.tables.exec = Jvm.exec) {cd : ClassFile.Cond} {x y : Int32} {o : Int} (hd : decode c.code pc = .ok (.if_icmp cd o, 3)) (hc : if_icmp.holds cd x y = true) (ho : 0 ≤ (pc : Int) + o) (hn : ((pc : Int) + o).toNat = n) (g : Goes p e below s Q K N (T.setTop (mkF m n Ls rest))) : Goes p e below s Q K N (T.setTop (mkF m pc Ls (.int y :: .int x :: rest))) := by
  exact g.via fun t k => XS.icmpYes X.here hx rfl rfl hd rfl hc ho hn k
theorem o_icmpN (X : Stand p l e R s m args below meth c T locs cells slots) (hx : p.tables.exec = Jvm.exec) {cd : ClassFile.Cond} {x y : Int32} {o : Int} (hd : decode c.code pc = .ok (.if_icmp cd o, 3)) (hc : if_icmp.holds cd x y = false) (hn : pc + 3 = n) (g : Goes p e below s Q K N (T.setTop (mkF m n Ls rest))) : Goes p e below s Q K N (T.setTop (mkF m pc Ls (.int y :: .int x :: rest))) := by
  subst hn
  exact g.via fun t k => XS.icmpNo X.here hx rfl hd rfl hc k
theorem o_ifnullY (X : Stand p l e R s m args below meth c T locs cells slots) (hx : p.tables.exec = Jvm.exec) {o : Int} (hd : decode c.code pc = .ok (.ifnull o, 3)) (ho : 0 ≤ (pc : Int) + o) (hn : ((pc : Int) + o).toNat = n) (g : Goes p e below s Q K N (T.setTop (mkF m n Ls rest))) : Goes p e below s Q K N (T.setTop (mkF m pc Ls (.null :: rest))) := by
  exact g.via fun t k => XS.ifnullYes X.here hx rfl rfl hd rfl ho hn k
theorem o_ifnullN (X : Stand p l e R s m args below meth c T locs cells slots) (hx : p.tables.exec = Jvm.exec) {o : Int} {a : Addr} (hd : decode c.code pc = .ok (.ifnull o, 3)) (hn : pc + 3 = n) (g : Goes p e below s Q K N (T.setTop (mkF m n Ls rest))) : Goes p e below s Q K N (T.setTop (mkF m pc Ls (.ref a :: rest))) := by
  subst hn
  exact g.via fun t k => XS.ifnullNo X.here hx rfl hd rfl k
theorem o_ifnonnullY (X : Stand p l e R s m args below meth c T locs cells slots) (hx : p.tables.exec = Jvm.exec) {o : Int} {a : Addr} (hd : decode c.code pc = .ok (.ifnonnull o, 3)) (ho : 0 ≤ (pc : Int) + o) (hn : ((pc : Int) + o).toNat = n) (g : Goes p e below s Q K N (T.setTop (mkF m n Ls rest))) : Goes p e below s Q K N (T.setTop (mkF m pc Ls (.ref a :: rest))) := by
  exact g.via fun t k => XS.ifnonnullYes X.here hx rfl rfl hd rfl ho hn k
theorem o_ifnonnullN (X : Stand p l e R s m args below meth c T locs cells slots) (hx : p.tables.exec = Jvm.exec) {o : Int} (hd : decode c.code pc = .ok (.ifnonnull o, 3)) (hn : pc + 3 = n) (g : Goes p e below s Q K N (T.setTop (mkF m n Ls rest))) : Goes p e below s Q K N (T.setTop (mkF m pc Ls (.null :: rest))) := by
  subst hn
  exact g.via fun t k => XS.ifnonnullNo X.here hx rfl hd rfl k
theorem o_acmp (X : Stand p l e R s m args below meth c T locs cells slots) (hx : p.tables.exec = Jvm.exec) {cd : ACond} {x y : Value} {o : Int} {same : Bool} (hd : decode c.code pc = .ok (.if_acmp cd o, 3)) (h1 : x.isRef = true) (h2 : y.isRef = true) (hq : decide (x = y) = same) (ho : 0 ≤ (pc : Int) + o) (hn : n = if acV cd same = true then ((pc : Int) + o).toNat else pc + 3) (g : Goes p e below s Q K N (T.setTop (mkF m n Ls rest))) : Goes p e below s Q K N (T.setTop (mkF m pc Ls (y :: x :: rest))) := by
  exact g.via fun t k => Jvm.RoadKit.acmp X hx (g := mkF m pc Ls _) rfl h1 h2 rfl hd rfl hq ho hn k
/-! the heap -/
theorem o_getfield (X : Stand p l e R s m args below meth c T locs cells slots) (hx : p.tables.exec = Jvm.exec) (hZ : Z.Warmed39 s.vm) {own R0 O nm d host : String} {index : Nat} (hown : s.vm.findClass own = some m.cls) (w : (Jvm.Cond.fieldLink own index R0 nm d).before a0 Z = true ∨ (Jvm.Cond.fieldLinkNest own index R0 nm d host).before a0 Z = true) (via : Via Z R0 O nm d) (eT : T.heap = h) {a : Addr} {v : Value} (F : Fld Z h a O nm d v)
    (hd : decode c.code pc = .ok (.getfield index, 3)) (hn : pc + 3 = n) (k : ∀ T', Stand p l e R s m args below meth c T' locs cells slots → T'.heap = h → Goes p e below s Q K N (T'.setTop (mkF m n Ls (v :: rest)))) : Goes p e below s Q K N (T.setTop (mkF m pc Ls (.ref a :: rest))) := by
  subst hn
  obtain ⟨T', X', e', st'⟩ := getF X hx hZ hown w via eT F (g := mkF m pc Ls (.ref a :: rest)) rfl rfl hd
  exact (k T' X' e').via st'
theorem o_putfield (X : Stand p l e R s m args below meth c T locs cells slots) (hx : p.tables.exec = Jvm.exec) (hZ : Z.Warmed39 s.vm) {own R0 O nm d host C : String} {index kk : Nat} {ty : FieldType} (hown : s.vm.findClass own = some m.cls) (w : (Jvm.Cond.fieldLink own index R0 nm d).before a0 Z = true ∨ (Jvm.Cond.fieldLinkNest own index R0 nm d host).before a0 Z = true) (via : Via Z R0 O nm d) (eT : T.heap = h) {a : Addr} {v old : Value} (F : Fld Z h a O nm d old) (E : Exa Z h a C)
    (L : (Jvm.Cond.lays C O nm d).before a0 Z = true ∨ ((Jvm.Cond.laysFinal C O nm d).before a0 Z = true ∧ own = O ∧ meth.name = "<init>")) (wi : (Jvm.Cond.instantiable C kk).before a0 Z = true) (hty : parseFieldDescriptor d = some ty) (hnn : narrow ty v = v) (hf : fits ty v = true) (hd : decode c.code pc = .ok (.putfield index, 3)) (hn : pc + 3 = n)
    (k : ∀ T' h', Stand p l e R s m args below meth c T' (locs ++ [⟨a, Jvm.RoadKit.slotOf Z O nm d⟩]) cells slots → T'.heap = h' → Wr h h' a (Jvm.RoadKit.slotOf Z O nm d) v → Fld Z h' a O nm d v → Exa Z h' a C → Goes p e below s Q K N (T'.setTop (mkF m n Ls rest))) : Goes p e below s Q K N (T.setTop (mkF m pc Ls (v :: .ref a :: rest))) := by
  subst hn
  obtain ⟨T', h', X', e', W, st'⟩ := putF X hx hZ hown w via eT F E L wi hty hnn hf (g := mkF m pc Ls (v :: .ref a :: rest)) rfl rfl hd
  exact (k T' h' X' e' W (F.same W) (E.wr W)).via st'
theorem o_getstatic (X : Stand p l e R s m args below meth c T locs cells slots) (hx : p.tables.exec = Jvm.exec) (hZ : Z.Warmed39 s.vm) {own R0 O nm d host : String} {index : Nat} (hown : s.vm.findClass own = some m.cls) (w : (Jvm.Cond.fieldLink own index R0 nm d).before a0 Z = true ∨ (Jvm.Cond.fieldLinkNest own index R0 nm d host).before a0 Z = true) (via : Via Z R0 O nm d) (eT : T.heap = h) {v : Value} (F : Sta Z h O nm d v)
    (hd : decode c.code pc = .ok (.getstatic index, 3)) (hn : pc + 3 = n) (k : ∀ T', Stand p l e R s m args below meth c T' locs cells slots → T'.heap = h → Goes p e below s Q K N (T'.setTop (mkF m n Ls (v :: st)))) : Goes p e below s Q K N (T.setTop (mkF m pc Ls st)) := by
  subst hn
  obtain ⟨T', X', e', st'⟩ := getS2 X hx hZ hown w via eT F (g := mkF m pc Ls st) rfl hd
  exact (k T' X' e').via st'
theorem o_new (X : Stand p l e R s m args below meth c T locs cells slots) (hx : p.tables.exec = Jvm.exec) (hZ : Z.Warmed39 s.vm) {own C : String} {index kk : Nat} (hown : s.vm.findClass own = some m.cls) (w : (Jvm.Cond.classLink own index C).before a0 Z = true) (wi : (Jvm.Cond.instantiable C kk).before a0 Z = true) (wz : (Jvm.Cond.initialized C).before a0 Z = true) (eT : T.heap = h)
    (hd : decode c.code pc = .ok (.new index, 3)) (hc : cells + 1 ≤ R.cells) (hs : slots + kk ≤ R.slots) (hn : pc + 3 = n)
    (k : ∀ T' h' a, Stand p l e R s m args below meth c T' locs (cells + 1) (slots + kk) → T'.heap = h' → a = h.size → Ext h h' → Exa Z h' a C → (∀ {O nm d : String} {ty : FieldType}, Laid Z a0 C O nm d → parseFieldDescriptor d = some ty → Fld Z h' a O nm d (defaultValue ty)) → Goes p e below s Q K N (T'.setTop (mkF m n Ls (.ref a :: st)))) : Goes p e below s Q K N (T.setTop (mkF m pc Ls st)) := by
  subst hn
  obtain ⟨T', h', X', e', E, A, D, -, st'⟩ := newO X hx hZ hown w wi wz eT (g := mkF m pc Ls st) rfl hd hc hs
  exact (k T' h' _ X' e' rfl E A D).via st'
theorem o_newarray (X : Stand p l e R s m args below meth c T locs cells slots) (hx : p.tables.exec = Jvm.exec) (hZ : Z.Warmed39 s.vm) {aty : ArrayType} (w : (Jvm.Cond.arrayClass (newarray.typeOf aty)).before a0 Z = true) (eT : T.heap = h) {z : Int32} (hd : decode c.code pc = .ok (.newarray aty, 2)) (hz : ¬ z < 0) (cap : Nat) (hcap : z.toNatClampNeg ≤ cap) (hb : cap * 8 ≤ 536870912) (hc : cells + 1 ≤ R.cells) (hs : slots + cap ≤ R.slots) (hn : pc + 2 = n)
    (k : ∀ T' h' a cA, Stand p l e R s m args below meth c T' locs (cells + 1) (slots + cap) → T'.heap = h' → a = h.size → Ext h h' → Arv Z h' a cA (newarray.typeOf aty) z [] (defaultValue (newarray.typeOf aty)) → Goes p e below s Q K N (T'.setTop (mkF m n Ls (.ref a :: rest)))) : Goes p e below s Q K N (T.setTop (mkF m pc Ls (.int z :: rest))) := by
  subst hn
  obtain ⟨T', h', cA, X', e', E, A, st'⟩ := newP X hx hZ w eT (g := mkF m pc Ls (.int z :: rest)) rfl hd rfl hz hcap hb hc hs
  exact (k T' h' _ cA X' e' rfl E (Arv.new A hz)).via st'
theorem o_arraylength (X : Stand p l e R s m args below meth c T locs cells slots) (hx : p.tables.exec = Jvm.exec) (hZ : Z.Warmed39 s.vm) (eT : T.heap = h) {a : Addr} {k : ClassId} {ty : FieldType} {z : Int32} {vs : List Value} {dv : Value} (V : Arv Z h a k ty z vs dv) (hd : decode c.code pc = .ok (.arraylength, 1)) (hn : pc + 1 = n) (g : Goes p e below s Q K N (T.setTop (mkF m n Ls (.int z :: rest)))) : Goes p e below s Q K N (T.setTop (mkF m pc Ls (.ref a :: rest))) := by
  subst hn
  obtain ⟨cl, A, -, S, M, -, -⟩ := V
  refine g.via fun t k => X.arraylength hx (by rw [eT]; exact A.1) (State.isArrayOf_alike hZ.alike A.2.1) (g := mkF m pc Ls (.ref a :: rest)) rfl rfl hd t ?_
  rw [len_of S M]; exact k
theorem o_iaload (X : Stand p l e R s m args below meth c T locs cells slots) (hx : p.tables.exec = Jvm.exec) (hZ : Z.Warmed39 s.vm) (eT : T.heap = h) {a : Addr} {k : ClassId} {z j : Int32} {vs : List Value} {dv v : Value} (V : Arv Z h a k .int z vs dv) (i : Nat) (hi : j.toNatClampNeg = i) (hj : ¬ j < 0 ∧ j < z) (hv : vs.getD i dv = v) (hd : decode c.code pc = .ok (.iaload, 1)) (hn : pc + 1 = n) (g : Goes p e below s Q K N (T.setTop (mkF m n Ls (v :: rest)))) : Goes p e below s Q K N (T.setTop (mkF m pc Ls (.int j :: .ref a :: rest))) := by
  subst hn hi
  obtain ⟨cl, A, -, S, M, H, -⟩ := V
  exact g.via fun t k => X.iaload hx (by rw [eT]; exact A.1) (State.isArrayOf_alike hZ.alike A.2.1) A.2.2 (inb_of S hj) (Has.at H (inb_of S hj) hv) (g := mkF m pc Ls (.int j :: .ref a :: rest)) rfl rfl hd t k
theorem o_laload (X : Stand p l e R s m args below meth c T locs cells slots) (hx : p.tables.exec = Jvm.exec) (hZ : Z.Warmed39 s.vm) (eT : T.heap = h) {a : Addr} {k : ClassId} {z j : Int32} {vs : List Value} {dv v : Value} (V : Arv Z h a k .long z vs dv) (i : Nat) (hi : j.toNatClampNeg = i) (hj : ¬ j < 0 ∧ j < z) (hv : vs.getD i dv = v) (hd : decode c.code pc = .ok (.laload, 1)) (hn : pc + 1 = n) (g : Goes p e below s Q K N (T.setTop (mkF m n Ls (v :: rest)))) : Goes p e below s Q K N (T.setTop (mkF m pc Ls (.int j :: .ref a :: rest))) := by
  subst hn hi
  obtain ⟨cl, A, -, S, M, H, -⟩ := V
  exact g.via fun t k => X.laload hx (by rw [eT]; exact A.1) (State.isArrayOf_alike hZ.alike A.2.1) A.2.2 (inb_of S hj) (Has.at H (inb_of S hj) hv) (g := mkF m pc Ls (.int j :: .ref a :: rest)) rfl rfl hd t k
theorem o_baload (X : Stand p l e R s m args below meth c T locs cells slots) (hx : p.tables.exec = Jvm.exec) (hZ : Z.Warmed39 s.vm) (eT : T.heap = h) {a : Addr} {k : ClassId} {z j : Int32} {vs : List Value} {dv v : Value} (V : Arv Z h a k .byte z vs dv) (i : Nat) (hi : j.toNatClampNeg = i) (hj : ¬ j < 0 ∧ j < z) (hv : vs.getD i dv = v) (hd : decode c.code pc = .ok (.baload, 1)) (hn : pc + 1 = n) (g : Goes p e below s Q K N (T.setTop (mkF m n Ls (v :: rest)))) : Goes p e below s Q K N (T.setTop (mkF m pc Ls (.int j :: .ref a :: rest))) := by
  subst hn hi
  obtain ⟨cl, A, -, S, M, H, -⟩ := V
  exact g.via fun t k => X.baloadBytes hx (by rw [eT]; exact A.1) (State.isArrayOf_alike hZ.alike A.2.1) A.2.2 (inb_of S hj) (Has.at H (inb_of S hj) hv) (g := mkF m pc Ls (.int j :: .ref a :: rest)) rfl rfl hd t k
theorem o_baloadZ (X : Stand p l e R s m args below meth c T locs cells slots) (hx : p.tables.exec = Jvm.exec) (hZ : Z.Warmed39 s.vm) (eT : T.heap = h) {a : Addr} {k : ClassId} {z j : Int32} {vs : List Value} {dv v : Value} (V : Arv Z h a k .boolean z vs dv) (i : Nat) (hi : j.toNatClampNeg = i) (hj : ¬ j < 0 ∧ j < z) (hv : vs.getD i dv = v) (hd : decode c.code pc = .ok (.baload, 1)) (hn : pc + 1 = n) (g : Goes p e below s Q K N (T.setTop (mkF m n Ls (v :: rest)))) : Goes p e below s Q K N (T.setTop (mkF m pc Ls (.int j :: .ref a :: rest))) := by
  subst hn hi
  obtain ⟨cl, A, -, S, M, H, -⟩ := V
  exact g.via fun t k => X.baloadBooleans hx (by rw [eT]; exact A.1) (State.isArrayOf_alike hZ.alike A.2.1) A.2.2 (inb_of S hj) (Has.at H (inb_of S hj) hv) (g := mkF m pc Ls (.int j :: .ref a :: rest)) rfl rfl hd t k
theorem o_aaload (X : Stand p l e R s m args below meth c T locs cells slots) (hx : p.tables.exec = Jvm.exec) (hZ : Z.Warmed39 s.vm) (eT : T.heap = h) {a : Addr} {k : ClassId} {ty : FieldType} {z j : Int32} {vs : List Value} {dv v : Value} (V : Arv Z h a k ty z vs dv) (hty : ty.isReference = true) (i : Nat) (hi : j.toNatClampNeg = i) (hj : ¬ j < 0 ∧ j < z) (hv : vs.getD i dv = v) (hd : decode c.code pc = .ok (.aaload, 1)) (hn : pc + 1 = n) (g : Goes p e below s Q K N (T.setTop (mkF m n Ls (v :: rest)))) : Goes p e below s Q K N (T.setTop (mkF m pc Ls (.int j :: .ref a :: rest))) := by
  subst hn hi
  obtain ⟨cl, A, -, S, M, H, -⟩ := V
  exact g.via fun t k => X.aaload hx (by rw [eT]; exact A.1) (State.isArrayOf_alike hZ.alike A.2.1) hty A.2.2 (inb_of S hj) (Has.at H (inb_of S hj) hv) (g := mkF m pc Ls (.int j :: .ref a :: rest)) rfl rfl hd t k
theorem o_iastore (X : Stand p l e R s m args below meth c T locs cells slots) (hx : p.tables.exec = Jvm.exec) (hZ : Z.Warmed39 s.vm) (eT : T.heap = h) {a : Addr} {k : ClassId} {z j : Int32} {x : Int32} {vs vs' : List Value} {dv w : Value} (V : Arv Z h a k .int z vs dv) (i : Nat) (hi : j.toNatClampNeg = i) (hj : ¬ j < 0 ∧ j < z) (hlen : i < vs.length) (hw : (.int x) = w) (hvs : vs.set i w = vs') (hd : decode c.code pc = .ok (.iastore, 1)) (hn : pc + 1 = n)
    (g : ∀ T' h', Stand p l e R s m args below meth c T' (locs ++ [⟨a, j.toNatClampNeg⟩]) cells slots → T'.heap = h' → Wr h h' a j.toNatClampNeg w → Arv Z h' a k .int z vs' dv → Goes p e below s Q K N (T'.setTop (mkF m n Ls rest))) : Goes p e below s Q K N (T.setTop (mkF m pc Ls (.int x :: .int j :: .ref a :: rest))) := by
  subst hn hvs hw
  obtain ⟨cl, A, q1, S, M, H, G⟩ := V
  obtain ⟨T', h', X', e', W, st'⟩ := stI X hx hZ eT A (j := j) (inb_of S hj) (g := mkF m pc Ls (.int x :: .int j :: .ref a :: rest)) rfl rfl hd
  exact (g T' h' X' e' W (Arv.set A q1 S M H G rfl W i hi hlen)).via st'
theorem o_lastore (X : Stand p l e R s m args below meth c T locs cells slots) (hx : p.tables.exec = Jvm.exec) (hZ : Z.Warmed39 s.vm) (eT : T.heap = h) {a : Addr} {k : ClassId} {z j : Int32} {x : Int64} {vs vs' : List Value} {dv w : Value} (V : Arv Z h a k .long z vs dv) (i : Nat) (hi : j.toNatClampNeg = i) (hj : ¬ j < 0 ∧ j < z) (hlen : i < vs.length) (hw : (.long x) = w) (hvs : vs.set i w = vs') (hd : decode c.code pc = .ok (.lastore, 1)) (hn : pc + 1 = n)
    (g : ∀ T' h', Stand p l e R s m args below meth c T' (locs ++ [⟨a, j.toNatClampNeg⟩]) cells slots → T'.heap = h' → Wr h h' a j.toNatClampNeg w → Arv Z h' a k .long z vs' dv → Goes p e below s Q K N (T'.setTop (mkF m n Ls rest))) : Goes p e below s Q K N (T.setTop (mkF m pc Ls (.long x :: .int j :: .ref a :: rest))) := by
  subst hn hvs hw
  obtain ⟨cl, A, q1, S, M, H, G⟩ := V
  obtain ⟨T', h', X', e', W, st'⟩ := stJ X hx hZ eT A (j := j) (inb_of S hj) (g := mkF m pc Ls (.long x :: .int j :: .ref a :: rest)) rfl rfl hd
  exact (g T' h' X' e' W (Arv.set A q1 S M H G rfl W i hi hlen)).via st'
theorem o_bastore (X : Stand p l e R s m args below meth c T locs cells slots) (hx : p.tables.exec = Jvm.exec) (hZ : Z.Warmed39 s.vm) (eT : T.heap = h) {a : Addr} {k : ClassId} {z j : Int32} {x : Int32} {vs vs' : List Value} {dv w : Value} (V : Arv Z h a k .byte z vs dv) (i : Nat) (hi : j.toNatClampNeg = i) (hj : ¬ j < 0 ∧ j < z) (hlen : i < vs.length) (hw : (.int (nar .byte x)) = w) (hvs : vs.set i w = vs') (hd : decode c.code pc = .ok (.bastore, 1)) (hn : pc + 1 = n)
    (g : ∀ T' h', Stand p l e R s m args below meth c T' (locs ++ [⟨a, j.toNatClampNeg⟩]) cells slots → T'.heap = h' → Wr h h' a j.toNatClampNeg w → Arv Z h' a k .byte z vs' dv → Goes p e below s Q K N (T'.setTop (mkF m n Ls rest))) : Goes p e below s Q K N (T.setTop (mkF m pc Ls (.int x :: .int j :: .ref a :: rest))) := by
  subst hn hvs hw
  obtain ⟨cl, A, q1, S, M, H, G⟩ := V
  obtain ⟨T', h', X', e', W, st'⟩ := stB X hx hZ eT A (j := j) (inb_of S hj) (g := mkF m pc Ls (.int x :: .int j :: .ref a :: rest)) rfl rfl hd
  exact (g T' h' X' e' W (Arv.set A q1 S M H G (fits_nar_byte x) W i hi hlen)).via st'
theorem o_bastoreZ (X : Stand p l e R s m args below meth c T locs cells slots) (hx : p.tables.exec = Jvm.exec) (hZ : Z.Warmed39 s.vm) (eT : T.heap = h) {a : Addr} {k : ClassId} {z j : Int32} {x : Int32} {vs vs' : List Value} {dv w : Value} (V : Arv Z h a k .boolean z vs dv) (i : Nat) (hi : j.toNatClampNeg = i) (hj : ¬ j < 0 ∧ j < z) (hlen : i < vs.length) (hw : (.int (nar .boolean x)) = w) (hvs : vs.set i w = vs') (hd : decode c.code pc = .ok (.bastore, 1)) (hn : pc + 1 = n)
    (g : ∀ T' h', Stand p l e R s m args below meth c T' (locs ++ [⟨a, j.toNatClampNeg⟩]) cells slots → T'.heap = h' → Wr h h' a j.toNatClampNeg w → Arv Z h' a k .boolean z vs' dv → Goes p e below s Q K N (T'.setTop (mkF m n Ls rest))) : Goes p e below s Q K N (T.setTop (mkF m pc Ls (.int x :: .int j :: .ref a :: rest))) := by
  subst hn hvs hw
  obtain ⟨cl, A, q1, S, M, H, G⟩ := V
  obtain ⟨T', h', X', e', W, st'⟩ := stZ X hx hZ eT A (j := j) (inb_of S hj) (g := mkF m pc Ls (.int x :: .int j :: .ref a :: rest)) rfl rfl hd
  exact (g T' h' X' e' W (Arv.set A q1 S M H G (fits_nar_bool x) W i hi hlen)).via st'

/-! calls -/
theorem o_initO (X : Stand p l e R s m args below meth c T locs cells slots) (hx : p.tables.exec = Jvm.exec) (hZ : Z.Warmed39 s.vm) {own : String} {idx : Nat} (hown : s.vm.findClass own = some m.cls) (w1 : (Jvm.Cond.methodLink own idx Lib.objectInit).before a0 Z = true) (w2 : (Jvm.Cond.instanceMethod Lib.objectInit).before a0 Z = true) (w3 : (Jvm.Cond.code Lib.objectInit ⟨#[0xb1]⟩ 1 none).before a0 Z = true) (eT : T.heap = h) (hsize : Ls.size = c.maxLocals) {a : Addr} (hd : decode c.code pc = .ok (.invokespecial idx, 3)) (hf : 1 ≤ R.frames) (W : Nat) (hW : (rest.map fun v => v.category).sum ≤ W) (hl : W + 12 ≤ R.locals) (hn : pc + 3 = n)
    (k : ∀ T', Stand p l e R s m args below meth c T' locs cells slots → T'.heap = h → Goes p e below s Q K N (T'.setTop (mkF m n Ls rest))) : Goes p e below s Q K N (T.setTop (mkF m pc Ls (.ref a :: rest))) := by
  subst hn
  obtain ⟨T', X', e', st'⟩ := initO X hx hZ hown w1 w2 w3 eT (g := mkF m pc Ls (.ref a :: rest)) rfl hsize rfl hd hf (W := W) (by show 2 * 0 + _ ≤ _; omega) hl
  exact (k T' X' e').via st'
theorem o_callS (X : Stand p l e R s m args below meth c T locs cells slots) (hx : p.tables.exec = Jvm.exec) (hZ : Z.Warmed39 s.vm) {own : String} {index : Nat} {y : MethodName} {bytes : ByteArray} {maxL : Nat} {ret : Option FieldType} {rm : Room} (hown : s.vm.findClass own = some m.cls) (w1 : (Jvm.Cond.methodLink own index y).before a0 Z = true) (w2 : (Jvm.Cond.static y).before a0 Z = true) (w3 : (Jvm.Cond.initialized y.cls).before a0 Z = true) (w4 : (Jvm.Cond.code y bytes maxL ret).before a0 Z = true) (hy : y.cls ≠ "java/lang/invoke/MethodHandle" ∧ y.cls ≠ "java/lang/invoke/VarHandle") (eT : T.heap = h)
    {argsL rest : List Value} {Q' : Option Value → Heap → List Loc → Prop} (hM : Does l Z y bytes maxL ret [] rm argsL.toArray h Q') (W : Nat) (hf : rm.frames + 1 ≤ R.frames) (hl : W + (maxL + 11) + rm.locals ≤ R.locals) (hc : cells + rm.cells ≤ R.cells) (hs : slots + rm.slots ≤ R.slots) (hsize : Ls.size = c.maxLocals) (hlen : ∀ sig, parseMethodDescriptor y.desc = some sig → argsL.length = sig.parameters.length) (hst : st = argsL.reverse ++ rest) (hW : (rest.map fun v => v.category).sum ≤ W) (hd : decode c.code pc = .ok (.invokestatic index, 3)) (hn : pc + 3 = n)
    (k : ∀ v T' L', Stand p l e R s m args below meth c T' (locs ++ L') (cells + rm.cells) (slots + rm.slots) → Q' v T'.heap L' → Goes p e below s Q K N (T'.setTop (mkF m n Ls (v.toList ++ rest)))) : Goes p e below s Q K N (T.setTop (mkF m pc Ls st)) := by
  subst hn
  obtain ⟨v, _, ⟨T', L, kk, nn⟩, -, X', ⟨Lc, hQ, l', y', z'⟩, st'⟩ := Jvm.LawKit.callS X hx (y := y) hown (mvT hZ w1) (mvT hZ w2) (mvT hZ w3) (mvT hZ w4) hy (backOf (W := W) hM hZ w4 w3 hf hl) (g := mkF m pc Ls st) rfl hsize (argsL := argsL) (rest := rest) hlen hst (by show 2 * 0 + _ ≤ _; omega) hd (fun _ _ => ⟨rfl, eT, hc, hs⟩)
  dsimp only [Pt.U, Pt.locs, Pt.cells, Pt.slots] at X' l' y' z' st' hQ
  subst l' y' z'
  exact (k v T' Lc X' hQ).via st'
theorem o_callN (X : Stand p l e R s m args below meth c T locs cells slots) (hx : p.tables.exec = Jvm.exec) (hZ : Z.Warmed39 s.vm) {own : String} {index : Nat} {y : MethodName} {bytes : ByteArray} {maxL : Nat} {rm : Room} (hy1 : y.name = "<init>") (hown : s.vm.findClass own = some m.cls) (w1 : (Jvm.Cond.methodLink own index y).before a0 Z = true) (w2 : (Jvm.Cond.instanceMethod y).before a0 Z = true) (w3 : (Jvm.Cond.initialized y.cls).before a0 Z = true) (w4 : (Jvm.Cond.code y bytes maxL none).before a0 Z = true) (hy : y.cls ≠ "java/lang/invoke/MethodHandle" ∧ y.cls ≠ "java/lang/invoke/VarHandle") (eT : T.heap = h)
    {a : Addr} {argsL rest : List Value} {Q' : Option Value → Heap → List Loc → Prop} (hM : Does l Z y bytes maxL none [] rm (.ref a :: argsL).toArray h Q') (W : Nat) (hf : rm.frames + 1 ≤ R.frames) (hl : W + (maxL + 11) + rm.locals ≤ R.locals) (hc : cells + rm.cells ≤ R.cells) (hs : slots + rm.slots ≤ R.slots) (hsize : Ls.size = c.maxLocals) (hlen : ∀ sig, parseMethodDescriptor y.desc = some sig → argsL.length = sig.parameters.length) (hst : st = argsL.reverse ++ .ref a :: rest) (hW : (rest.map fun v => v.category).sum ≤ W) (hd : decode c.code pc = .ok (.invokespecial index, 3)) (hn : pc + 3 = n)
    (k : ∀ v T' L', Stand p l e R s m args below meth c T' (locs ++ L') (cells + rm.cells) (slots + rm.slots) → Q' v T'.heap L' → Goes p e below s Q K N (T'.setTop (mkF m n Ls (v.toList ++ rest)))) : Goes p e below s Q K N (T.setTop (mkF m pc Ls st)) := by
  subst hn
  obtain ⟨v, _, ⟨T', L, kk, nn⟩, -, X', ⟨Lc, hQ, l', y', z'⟩, st'⟩ := X.specialBack hx (y := y) hy1 hown (mvT hZ w1) (mvT hZ w2) (mvT hZ w4) hy (backOf (W := W) hM hZ w4 w3 hf hl) (g := mkF m pc Ls st) rfl hsize (Steps.refl _) (a := a) (argsL := argsL) (rest := rest) hlen hst (by show 2 * 0 + _ ≤ _; omega) hd (fun _ _ => ⟨rfl, eT, hc, hs⟩)
  dsimp only [Pt.U, Pt.locs, Pt.cells, Pt.slots] at X' l' y' z' st' hQ
  subst l' y' z'
  exact (k v T' Lc X' hQ).via fun t q => st'.trans q
theorem o_callV (X : Stand p l e R s m args below meth c T locs cells slots) (hx : p.tables.exec = Jvm.exec) (hZ : Z.Warmed39 s.vm) {own C : String} {index : Nat} {y : MethodName} {bytes : ByteArray} {maxL : Nat} {ret : Option FieldType} {rm : Room} (hown : s.vm.findClass own = some m.cls) (w1 : (Jvm.Cond.methodLink own index y).before a0 Z = true) (w2 : (Jvm.Cond.declares y).before a0 Z = true) (w5 : (Jvm.Cond.selects C y y).before a0 Z = true) (w6 : (Jvm.Cond.instanceMethod y).before a0 Z = true) (w3 : (Jvm.Cond.initialized y.cls).before a0 Z = true) (w4 : (Jvm.Cond.code y bytes maxL ret).before a0 Z = true) (hy : y.cls ≠ "java/lang/invoke/MethodHandle" ∧ y.cls ≠ "java/lang/invoke/VarHandle") (eT : T.heap = h)
    {a : Addr} (E : Exa Z h a C) {argsL rest : List Value} {Q' : Option Value → Heap → List Loc → Prop} (hM : Does l Z y bytes maxL ret [] rm (.ref a :: argsL).toArray h Q') (W : Nat) (hf : rm.frames + 1 ≤ R.frames) (hl : W + (maxL + 11) + rm.locals ≤ R.locals) (hc : cells + rm.cells ≤ R.cells) (hs : slots + rm.slots ≤ R.slots) (hsize : Ls.size = c.maxLocals) (hlen : ∀ sig, parseMethodDescriptor y.desc = some sig → argsL.length = sig.parameters.length) (hst : st = argsL.reverse ++ .ref a :: rest) (hW : (rest.map fun v => v.category).sum ≤ W) (hd : decode c.code pc = .ok (.invokevirtual index, 3)) (hn : pc + 3 = n)
    (k : ∀ v T' L', Stand p l e R s m args below meth c T' (locs ++ L') (cells + rm.cells) (slots + rm.slots) → Q' v T'.heap L' → Goes p e below s Q K N (T'.setTop (mkF m n Ls (v.toList ++ rest)))) : Goes p e below s Q K N (T.setTop (mkF m pc Ls st)) := by
  subst hn
  obtain ⟨cq, kq, qa, qb, qc⟩ := isOf hZ eT E
  obtain ⟨v, _, ⟨T', L, kk, nn⟩, -, X', ⟨Lc, hQ, l', y', z'⟩, st'⟩ := X.virtualBack hx (y := y) (z := y) hown (mvT hZ w1) (mvT hZ w2) (notFace_of_selects (args := #[]) (mvT hZ w5)) (mvT hZ w5) (mvT hZ w6) hy (backOf (W := W) hM hZ w4 w3 hf hl) qa qc (g := mkF m pc Ls st) rfl hsize (Steps.refl _) (argsL := argsL) (rest := rest) hlen hst (by show 2 * 0 + _ ≤ _; omega) hd (fun _ _ => ⟨rfl, eT, hc, hs⟩)
  dsimp only [Pt.U, Pt.locs, Pt.cells, Pt.slots] at X' l' y' z' st' hQ
  subst l' y' z'
  exact (k v T' Lc X' hQ).via fun t q => st'.trans q
/-- a private method is the one that is selected -/
theorem o_selpriv {y : MethodName} {kk : Nat} (hy : y.cls ≠ "java/lang/invoke/MethodHandle" ∧ y.cls ≠ "java/lang/invoke/VarHandle") (hins : (Jvm.Cond.instantiable y.cls kk).before args s = true) (hpriv : (Jvm.Cond.privateMethod y).before args s = true) (hinst : (Jvm.Cond.instanceMethod y).before args s = true) : (Jvm.Cond.selects y.cls y y).before args s = true := by
  obtain ⟨c, k, hc, hk, -, hniab, -, -⟩ := Cond.instantiable_spec hins
  have hni : k.isInterface = false := (Bool.or_eq_false_iff.mp hniab).1
  obtain ⟨mk, methM, hnamed, hmethM, -, -⟩ := Cond.instanceMethod_spec hinst
  have hfound : s.methodFound? y.cls y.name y.desc = some mk := State.methodFound?_of_named hnamed hy
  have hcls : mk.cls = c := Option.some.inj ((findClass_of_methodNamed hnamed).symm.trans hc)
  have hsel : selectMethod {} s.vm c mk = .method mk := selectMethod_private hmethM (Cond.privateMethod_at hpriv mk methM hnamed hmethM)
  simp only [Cond.before, Cond.holds, Cond.value, hc, hfound, hnamed, hsel, hcls, hk]
  simp; exact hni
theorem o_callP (X : Stand p l e R s m args below meth c T locs cells slots) (hx : p.tables.exec = Jvm.exec) (hZ : Z.Warmed39 s.vm) {own C : String} {index kk : Nat} {y : MethodName} {bytes : ByteArray} {maxL : Nat} {ret : Option FieldType} {rm : Room} (hown : s.vm.findClass own = some m.cls) (w1 : (Jvm.Cond.methodLink own index y).before a0 Z = true) (w6 : (Jvm.Cond.instanceMethod y).before a0 Z = true) (w5 : (Jvm.Cond.privateMethod y).before a0 Z = true) (wi : (Jvm.Cond.instantiable y.cls kk).before a0 Z = true) (w3 : (Jvm.Cond.initialized y.cls).before a0 Z = true) (w4 : (Jvm.Cond.code y bytes maxL ret).before a0 Z = true) (hy : y.cls ≠ "java/lang/invoke/MethodHandle" ∧ y.cls ≠ "java/lang/invoke/VarHandle") (eT : T.heap = h)
    {a : Addr} (E : Exa Z h a C) {argsL rest : List Value} {Q' : Option Value → Heap → List Loc → Prop} (hM : Does l Z y bytes maxL ret [] rm (.ref a :: argsL).toArray h Q') (W : Nat) (hf : rm.frames + 1 ≤ R.frames) (hl : W + (maxL + 11) + rm.locals ≤ R.locals) (hc : cells + rm.cells ≤ R.cells) (hs : slots + rm.slots ≤ R.slots) (hsize : Ls.size = c.maxLocals) (hlen : ∀ sig, parseMethodDescriptor y.desc = some sig → argsL.length = sig.parameters.length) (hst : st = argsL.reverse ++ .ref a :: rest) (hW : (rest.map fun v => v.category).sum ≤ W) (hd : decode c.code pc = .ok (.invokevirtual index, 3)) (hn : pc + 3 = n)
    (k : ∀ v T' L', Stand p l e R s m args below meth c T' (locs ++ L') (cells + rm.cells) (slots + rm.slots) → Q' v T'.heap L' → Goes p e below s Q K N (T'.setTop (mkF m n Ls (v.toList ++ rest)))) : Goes p e below s Q K N (T.setTop (mkF m pc Ls st)) := by
  subst hn
  obtain ⟨cl, hcl, hob⟩ := E.cell
  obtain ⟨v, _, ⟨T', L, kk, nn⟩, -, X', ⟨Lc, hQ, l', y', z'⟩, st'⟩ := X.privateBack hx (y := y) hown (mvT hZ w1) (mvT hZ w6) (o_selpriv hy (mvT hZ wi) (mvP hZ w5) (mvT hZ w6)) (Cond.privateMethod_at (mvP hZ w5 (args := #[]))) (mvT hZ w4) hy (backOf (W := W) hM hZ w4 w3 hf hl) (g := mkF m pc Ls st) rfl hsize (Steps.refl _) (a := a) (by rw [eT]; exact hcl) hob (argsL := argsL) (rest := rest) hlen hst (by show 2 * 0 + _ ≤ _; omega) hd (fun _ _ => ⟨rfl, eT, hc, hs⟩)
  dsimp only [Pt.U, Pt.locs, Pt.cells, Pt.slots] at X' l' y' z' st' hQ
  subst l' y' z'
  exact (k v T' Lc X' hQ).via fun t q => st'.trans q
/-! returns -/
theorem o_retW (X : Stand p l e R s m args below meth c T locs cells slots) (hx : p.tables.exec = Jvm.exec) {t : FieldType} {w : Value} {i : Instr} (hret : meth.sig.returnType = some t) (hlk : meth.locks = false) (hnw : narrow t w = w)
    (hi : (i = .ireturn ∧ (t = .int ∨ t = .boolean ∨ t = .byte ∨ t = .char ∨ t = .short) ∧ ∃ z, w = .int z) ∨ (i = .lreturn ∧ t = .long ∧ ∃ z, w = .long z) ∨ (i = .dreturn ∧ t = .double ∧ ∃ z, w = .double z) ∨ (i = .freturn ∧ t = .float ∧ ∃ z, w = .float z) ∨ (i = .areturn ∧ t.isReference = true ∧ w.isRef = true))
    (hd : decode c.code pc = .ok (i, 1)) (hc : cells ≤ K) (hs : slots ≤ N) (eT : T.heap = h) (hQ : Q (some w) h locs) : Goes p e below s Q K N (T.setTop (mkF m pc Ls (w :: rest))) := by
  subst eT
  obtain ⟨fs, hr, hrun, hended, hW, hsame⟩ := X.leave (v := some w) (fun q => by rw [hret] at q; cases q) hlk
  exact ⟨_, _, retOut X hx hret hnw hi hd hr, hrun, hended, _, _, rfl, hQ, ⟨_, rfl⟩, hW, hsame.mono hc hs⟩
theorem o_ireturn (X : Stand p l e R s m args below meth c T locs cells slots) (hx : p.tables.exec = Jvm.exec) {x : Int32} (hret : meth.sig.returnType = some .int) (hlk : meth.locks = false) (hd : decode c.code pc = .ok (.ireturn, 1)) (hc : cells ≤ K) (hs : slots ≤ N) (eT : T.heap = h) (hQ : Q (some (.int x)) h locs) : Goes p e below s Q K N (T.setTop (mkF m pc Ls (.int x :: rest))) := o_retW X hx hret hlk rfl (Or.inl ⟨rfl, Or.inl rfl, x, rfl⟩) hd hc hs eT hQ
theorem o_lreturn (X : Stand p l e R s m args below meth c T locs cells slots) (hx : p.tables.exec = Jvm.exec) {x : Int64} (hret : meth.sig.returnType = some .long) (hlk : meth.locks = false) (hd : decode c.code pc = .ok (.lreturn, 1)) (hc : cells ≤ K) (hs : slots ≤ N) (eT : T.heap = h) (hQ : Q (some (.long x)) h locs) : Goes p e below s Q K N (T.setTop (mkF m pc Ls (.long x :: rest))) := o_retW X hx hret hlk rfl (Or.inr (Or.inl ⟨rfl, rfl, x, rfl⟩)) hd hc hs eT hQ
theorem o_areturn (X : Stand p l e R s m args below meth c T locs cells slots) (hx : p.tables.exec = Jvm.exec) {t : FieldType} {w : Value} (hret : meth.sig.returnType = some t) (hlk : meth.locks = false) (ht : t.isReference = true) (hw : w.isRef = true) (hd : decode c.code pc = .ok (.areturn, 1)) (hc : cells ≤ K) (hs : slots ≤ N) (eT : T.heap = h) (hQ : Q (some w) h locs) : Goes p e below s Q K N (T.setTop (mkF m pc Ls (w :: rest))) := o_retW X hx hret hlk (by cases t <;> first | rfl | cases ht) (Or.inr (Or.inr (Or.inr (Or.inr ⟨rfl, ht, hw⟩)))) hd hc hs eT hQ
/-- a boolean, byte, char or short: narrowed -/
theorem o_nreturn (X : Stand p l e R s m args below meth c T locs cells slots) (hx : p.tables.exec = Jvm.exec) {t : FieldType} {x : Int32} (hret : meth.sig.returnType = some t) (hlk : meth.locks = false) (ht : t = .boolean ∨ t = .byte ∨ t = .char ∨ t = .short) (hd : decode c.code pc = .ok (.ireturn, 1)) (hc : cells ≤ K) (hs : slots ≤ N) (eT : T.heap = h) (hQ : Q (some (.int (nar t x))) h locs) : Goes p e below s Q K N (T.setTop (mkF m pc Ls (.int x :: rest))) := by
  subst eT
  obtain ⟨fs, hr, hrun, hended, hW, hsame⟩ := X.leave (v := some (.int (nar t x))) (fun q => by rw [hret] at q; cases q) hlk
  exact ⟨_, _, retN X hx hret ht hd hr, hrun, hended, _, _, rfl, hQ, ⟨_, rfl⟩, hW, hsame.mono hc hs⟩
theorem o_return (X : Stand p l e R s m args below meth c T locs cells slots) (hx : p.tables.exec = Jvm.exec) (hret : meth.sig.returnType = none) (hlk : meth.locks = false) (hd : decode c.code pc = .ok (.return_, 1)) (hc : cells ≤ K) (hs : slots ≤ N) (eT : T.heap = h) (hQ : Q none h locs) : Goes p e below s Q K N (T.setTop (mkF m pc Ls [])) := by
  subst eT
  obtain ⟨fs, hr, hrun, hended, hW, hsame⟩ := X.leave (v := none) (fun _ => rfl) hlk
  exact ⟨_, _, X.returnOut hx hret hd hr, hrun, hended, _, _, rfl, hQ, ⟨_, rfl⟩, hW, hsame.mono hc hs⟩
/-- what a call that writes nothing promises -/
def Pur (h0 : Heap) (w : Value) (v : Option Value) (h : Heap) (L : List Loc) : Prop := v = some w ∧ h = h0 ∧ L = []
end Layer

theorem o_nz1 : nar .boolean (1 : Int32) = 1 := by decide
theorem o_nz0 : nar .boolean (0 : Int32) = 0 := by decide
theorem o_nar8 (x : Int32) : nar .byte x.toInt8.toInt32 = x.toInt8.toInt32 := by simp [nar]

def o_h (h e : Int32) : Int32 := h * (-1640531527 : Int32) + e
def o_x16 (x : Int32) : Int32 := x ^^^ (x.toUInt32 >>> (16 : UInt32)).toInt32
def o_x13 (x : Int32) : Int32 := x ^^^ (x.toUInt32 >>> (13 : UInt32)).toInt32
def o_y13 (x : Int32) : Int32 := x ^^^ ((x.toUInt32 >>> (13 : UInt32)).toInt32 ^^^ (x.toUInt32 >>> (26 : UInt32)).toInt32)
def o_m1 (x : Int32) : Int32 := x * (-2048144789 : Int32)
def o_m2 (x : Int32) : Int32 := x * (-1028477387 : Int32)
def o_n1 (x : Int32) : Int32 := x * (2127672349 : Int32)
def o_n2 (x : Int32) : Int32 := x * (-1513385405 : Int32)
theorem o_bv16 (x : Int32) : (o_x16 x).toBitVec = x.toBitVec ^^^ (x.toBitVec >>> 16) := rfl
theorem o_bv13 (x : Int32) : (o_x13 x).toBitVec = x.toBitVec ^^^ (x.toBitVec >>> 13) := rfl
theorem o_bvy (x : Int32) : (o_y13 x).toBitVec = x.toBitVec ^^^ ((x.toBitVec >>> 13) ^^^ (x.toBitVec >>> 26)) := rfl
theorem o_i16 (x : Int32) : o_x16 (o_x16 x) = x := by
  apply Int32.toBitVec_inj.mp
  rw [o_bv16, o_bv16]
  apply BitVec.eq_of_getLsbD_eq
  intro i hi
  simp only [BitVec.getLsbD_xor, BitVec.getLsbD_ushiftRight]
  have e : x.toBitVec.getLsbD (16 + (16 + i)) = false := BitVec.getLsbD_of_ge _ _ (by omega)
  rw [e]
  cases x.toBitVec.getLsbD i <;> cases x.toBitVec.getLsbD (16 + i) <;> rfl
theorem o_i13 (x : Int32) : o_y13 (o_x13 x) = x := by
  apply Int32.toBitVec_inj.mp
  rw [o_bvy, o_bv13]
  apply BitVec.eq_of_getLsbD_eq
  intro i hi
  simp only [BitVec.getLsbD_xor, BitVec.getLsbD_ushiftRight]
  have e : x.toBitVec.getLsbD (13 + (26 + i)) = false := BitVec.getLsbD_of_ge _ _ (by omega)
  have f : x.toBitVec.getLsbD (13 + (13 + i)) = x.toBitVec.getLsbD (26 + i) := by congr 1; omega
  rw [e, f]
  cases x.toBitVec.getLsbD i <;> cases x.toBitVec.getLsbD (13 + i) <;> cases x.toBitVec.getLsbD (26 + i) <;> rfl
theorem o_im1 (x : Int32) : o_n2 (o_m1 x) = x := by
  unfold o_n2 o_m1
  rw [Int32.mul_assoc, show (-2048144789 : Int32) * (-1513385405 : Int32) = 1 from by decide, Int32.mul_one]
theorem o_im2 (x : Int32) : o_n1 (o_m2 x) = x := by
  unfold o_n1 o_m2
  rw [Int32.mul_assoc, show (-1028477387 : Int32) * (2127672349 : Int32) = 1 from by decide, Int32.mul_one]
theorem o_inv (x : Int32) : o_x16 (o_n2 (o_y13 (o_n1 (o_x16 (o_x16 (o_m2 (o_x13 (o_m1 (o_x16 x))))))))) = x := by rw [o_i16, o_im2, o_i13, o_im1, o_i16]
theorem o_n5 (x : Int32) : (x &&& 2147483647) % 5 = 0 ∨ (x &&& 2147483647) % 5 = 1 ∨ (x &&& 2147483647) % 5 = 2 ∨ (x &&& 2147483647) % 5 = 3 ∨ (x &&& 2147483647) % 5 = 4 := by
  have a := c_mask x 2147483647 31 (by decide) (by decide)
  have b : 0 ≤ x.toInt % (2 ^ 31 : Nat) := Int.emod_nonneg _ (by decide)
  have d := (c_irem (x &&& 2147483647) 5 5 rfl).1 (by rw [a]; exact b)
  have e0 : (0 : Int32).toInt = 0 := rfl
  have e1 : (1 : Int32).toInt = 1 := rfl
  have e2 : (2 : Int32).toInt = 2 := rfl
  have e3 : (3 : Int32).toInt = 3 := rfl
  have e4 : (4 : Int32).toInt = 4 := rfl
  simp only [← Int32.toInt_inj]
  omega

theorem d_prog_15_method_16_code_0 : decode prog_15_method_16_code 0 = .ok (.iload_n 1, 1) := by decide +kernel
theorem d_prog_15_method_16_code_1 : decode prog_15_method_16_code 1 = .ok (.istore_n 2, 1) := by decide +kernel
theorem d_prog_15_method_16_code_2 : decode prog_15_method_16_code 2 = .ok (.iconst 0, 1) := by decide +kernel
theorem d_prog_15_method_16_code_3 : decode prog_15_method_16_code 3 = .ok (.istore_n 3, 1) := by decide +kernel
theorem d_prog_15_method_16_code_4 : decode prog_15_method_16_code 4 = .ok (.iload_n 3, 1) := by decide +kernel
theorem d_prog_15_method_16_code_5 : decode prog_15_method_16_code 5 = .ok (.iload_n 1, 1) := by decide +kernel
theorem d_prog_15_method_16_code_6 : decode prog_15_method_16_code 6 = .ok (.if_icmp .ge 18, 3) := by decide +kernel
theorem d_prog_15_method_16_code_24 : decode prog_15_method_16_code 24 = .ok (.iload_n 2, 1) := by decide +kernel
theorem d_prog_15_method_16_code_25 : decode prog_15_method_16_code 25 = .ok (.iload_n 2, 1) := by decide +kernel
theorem d_prog_15_method_16_code_26 : decode prog_15_method_16_code 26 = .ok (.bipush 16, 2) := by decide +kernel
theorem d_prog_15_method_16_code_28 : decode prog_15_method_16_code 28 = .ok (.iushr, 1) := by decide +kernel
theorem d_prog_15_method_16_code_29 : decode prog_15_method_16_code 29 = .ok (.ixor, 1) := by decide +kernel
theorem d_prog_15_method_16_code_30 : decode prog_15_method_16_code 30 = .ok (.istore_n 2, 1) := by decide +kernel
theorem d_prog_15_method_16_code_31 : decode prog_15_method_16_code 31 = .ok (.iload_n 2, 1) := by decide +kernel
theorem d_prog_15_method_16_code_32 : decode prog_15_method_16_code 32 = .ok (.ldc 78, 2) := by decide +kernel
theorem d_prog_15_method_16_code_34 : decode prog_15_method_16_code 34 = .ok (.imul, 1) := by decide +kernel
theorem d_prog_15_method_16_code_35 : decode prog_15_method_16_code 35 = .ok (.istore_n 2, 1) := by decide +kernel
theorem d_prog_15_method_16_code_36 : decode prog_15_method_16_code 36 = .ok (.iload_n 2, 1) := by decide +kernel
theorem d_prog_15_method_16_code_37 : decode prog_15_method_16_code 37 = .ok (.iload_n 2, 1) := by decide +kernel
theorem d_prog_15_method_16_code_38 : decode prog_15_method_16_code 38 = .ok (.bipush 13, 2) := by decide +kernel
theorem d_prog_15_method_16_code_40 : decode prog_15_method_16_code 40 = .ok (.iushr, 1) := by decide +kernel
theorem d_prog_15_method_16_code_41 : decode prog_15_method_16_code 41 = .ok (.ixor, 1) := by decide +kernel
theorem d_prog_15_method_16_code_42 : decode prog_15_method_16_code 42 = .ok (.istore_n 2, 1) := by decide +kernel
theorem d_prog_15_method_16_code_43 : decode prog_15_method_16_code 43 = .ok (.iload_n 2, 1) := by decide +kernel
theorem d_prog_15_method_16_code_44 : decode prog_15_method_16_code 44 = .ok (.ldc 79, 2) := by decide +kernel
theorem d_prog_15_method_16_code_46 : decode prog_15_method_16_code 46 = .ok (.imul, 1) := by decide +kernel
theorem d_prog_15_method_16_code_47 : decode prog_15_method_16_code 47 = .ok (.istore_n 2, 1) := by decide +kernel
theorem d_prog_15_method_16_code_48 : decode prog_15_method_16_code 48 = .ok (.iload_n 2, 1) := by decide +kernel
theorem d_prog_15_method_16_code_49 : decode prog_15_method_16_code 49 = .ok (.iload_n 2, 1) := by decide +kernel
theorem d_prog_15_method_16_code_50 : decode prog_15_method_16_code 50 = .ok (.bipush 16, 2) := by decide +kernel
theorem d_prog_15_method_16_code_52 : decode prog_15_method_16_code 52 = .ok (.iushr, 1) := by decide +kernel
theorem d_prog_15_method_16_code_53 : decode prog_15_method_16_code 53 = .ok (.ixor, 1) := by decide +kernel
theorem d_prog_15_method_16_code_54 : decode prog_15_method_16_code 54 = .ok (.ireturn, 1) := by decide +kernel
theorem o_ef1 (m : MethodId) (a1 : Addr) : entryFrame m #[(.ref a1), (.int (0 : Int32))] 4 = mkF m 0 #[.val (.ref a1), .val (.int (0 : Int32)), .unset, .unset] [] := by first | (simp [entryFrame, mkF, argsToLocals, Value.category]; done) | rfl
theorem o_pn0 : plainName "acyclon/core/EdgeSets" = true := by first | (simp [plainName, overriddenIn]; done) | decide +kernel
set_option maxRecDepth 65536 in
set_option maxHeartbeats 40000000 in
theorem c_hash_0 (l : Launch) (Z : State) (a0 : Array Value) (hw : ∀ d ∈ tables_1, d.before a0 Z = true) (a1 : Addr) (k1 : ClassId) (w0 : Int32) (w1 : Int32) (w2 : Int32) (w3 : Int32) (w4 : Int32) (h0 : Heap) (pV_a1 : Arv Z h0 a1 k1 .int (5 : Int32) [(.int w0), (.int w1), (.int w2), (.int w3), (.int w4)] (.int (0 : Int32))) :
    Does l Z (⟨"acyclon/core/EdgeSets", "hash", "([II)I"⟩ : MethodName) prog_15_method_16_code 4 (some .int) [] ({ frames := 0, cells := 0, slots := 0, locals := 0 } : Room) #[(.ref a1), (.int (0 : Int32))] h0 (Pur h0 (.int (o_x16 (o_m2 (o_x13 (o_m1 (o_x16 (0 : Int32)))))))) := by
  refine Does.of (plainFor_of_name o_pn0) ?_
  intro p e s m below meth c T0 hx hby hml hown hnm hret hlk hZ X0 e0
  have hown : s.vm.findClass "acyclon/core/EdgeSets" = some m.cls := hown
  have hml : c.maxLocals = 4 := hml
  have hret : meth.sig.returnType = some .int := hret
  refine o_entry (o_ef1 m a1) ?_
  refine o_iloadN X0 hx (hb hby d_prog_15_method_16_code_0) (v := (0 : Int32)) rfl (n := 1) rfl ?_
  refine o_istoreN X0 hx (hb hby d_prog_15_method_16_code_1) (Ls' := #[.val (.ref a1), .val (.int (0 : Int32)), .val (.int (0 : Int32)), .unset]) rfl (n := 2) rfl ?_
  refine o_iconst X0 hx (hb hby d_prog_15_method_16_code_2) (v := (0 : Int32)) rfl (n := 3) rfl ?_
  refine o_istoreN X0 hx (hb hby d_prog_15_method_16_code_3) (Ls' := #[.val (.ref a1), .val (.int (0 : Int32)), .val (.int (0 : Int32)), .val (.int (0 : Int32))]) rfl (n := 4) rfl ?_
  refine o_iloadN X0 hx (hb hby d_prog_15_method_16_code_4) (v := (0 : Int32)) rfl (n := 5) rfl ?_
  refine o_iloadN X0 hx (hb hby d_prog_15_method_16_code_5) (v := (0 : Int32)) rfl (n := 6) rfl ?_
  refine o_icmpY X0 hx (hb hby d_prog_15_method_16_code_6) (XT.ii_ge_t (by decide)) (by decide) (n := 24) (by decide) ?_
  refine o_iloadN X0 hx (hb hby d_prog_15_method_16_code_24) (v := (0 : Int32)) rfl (n := 25) rfl ?_
  refine o_iloadN X0 hx (hb hby d_prog_15_method_16_code_25) (v := (0 : Int32)) rfl (n := 26) rfl ?_
  refine o_bipush X0 hx (hb hby d_prog_15_method_16_code_26) (v := (16 : Int32)) rfl (n := 28) rfl ?_
  refine o_iushr X0 hx (hb hby d_prog_15_method_16_code_28) (v := (0 : Int32)) (by decide) (n := 29) rfl ?_
  refine o_ixor X0 hx (hb hby d_prog_15_method_16_code_29) (v := (o_x16 (0 : Int32))) rfl (n := 30) rfl ?_
  refine o_istoreN X0 hx (hb hby d_prog_15_method_16_code_30) (Ls' := #[.val (.ref a1), .val (.int (0 : Int32)), .val (.int (o_x16 (0 : Int32))), .val (.int (0 : Int32))]) rfl (n := 31) rfl ?_
  refine o_iloadN X0 hx (hb hby d_prog_15_method_16_code_31) (v := (o_x16 (0 : Int32))) rfl (n := 32) rfl ?_
  refine o_ldc X0 hx hZ (v := (-2048144789 : Int32)) hown (hw _ (List.mem_of_getElem? (i := 6) rfl)) (hb hby d_prog_15_method_16_code_32) (n := 34) rfl ?_
  refine o_imul X0 hx (hb hby d_prog_15_method_16_code_34) (v := (o_m1 (o_x16 (0 : Int32)))) rfl (n := 35) rfl ?_
  refine o_istoreN X0 hx (hb hby d_prog_15_method_16_code_35) (Ls' := #[.val (.ref a1), .val (.int (0 : Int32)), .val (.int (o_m1 (o_x16 (0 : Int32)))), .val (.int (0 : Int32))]) rfl (n := 36) rfl ?_
  refine o_iloadN X0 hx (hb hby d_prog_15_method_16_code_36) (v := (o_m1 (o_x16 (0 : Int32)))) rfl (n := 37) rfl ?_
  refine o_iloadN X0 hx (hb hby d_prog_15_method_16_code_37) (v := (o_m1 (o_x16 (0 : Int32)))) rfl (n := 38) rfl ?_
  refine o_bipush X0 hx (hb hby d_prog_15_method_16_code_38) (v := (13 : Int32)) rfl (n := 40) rfl ?_
  refine o_iushr X0 hx (hb hby d_prog_15_method_16_code_40) (v := ((o_m1 (o_x16 (0 : Int32))).toUInt32 >>> (13 : UInt32)).toInt32) (congrArg (fun q : UInt32 => ((o_m1 (o_x16 (0 : Int32))).toUInt32 >>> q).toInt32) (show ((13 : Int32) &&& 31).toUInt32 = 13 by decide)) (n := 41) rfl ?_
  refine o_ixor X0 hx (hb hby d_prog_15_method_16_code_41) (v := (o_x13 (o_m1 (o_x16 (0 : Int32))))) rfl (n := 42) rfl ?_
  refine o_istoreN X0 hx (hb hby d_prog_15_method_16_code_42) (Ls' := #[.val (.ref a1), .val (.int (0 : Int32)), .val (.int (o_x13 (o_m1 (o_x16 (0 : Int32))))), .val (.int (0 : Int32))]) rfl (n := 43) rfl ?_
  refine o_iloadN X0 hx (hb hby d_prog_15_method_16_code_43) (v := (o_x13 (o_m1 (o_x16 (0 : Int32))))) rfl (n := 44) rfl ?_
  refine o_ldc X0 hx hZ (v := (-1028477387 : Int32)) hown (hw _ (List.mem_of_getElem? (i := 7) rfl)) (hb hby d_prog_15_method_16_code_44) (n := 46) rfl ?_
  refine o_imul X0 hx (hb hby d_prog_15_method_16_code_46) (v := (o_m2 (o_x13 (o_m1 (o_x16 (0 : Int32)))))) rfl (n := 47) rfl ?_
  refine o_istoreN X0 hx (hb hby d_prog_15_method_16_code_47) (Ls' := #[.val (.ref a1), .val (.int (0 : Int32)), .val (.int (o_m2 (o_x13 (o_m1 (o_x16 (0 : Int32)))))), .val (.int (0 : Int32))]) rfl (n := 48) rfl ?_
  refine o_iloadN X0 hx (hb hby d_prog_15_method_16_code_48) (v := (o_m2 (o_x13 (o_m1 (o_x16 (0 : Int32)))))) rfl (n := 49) rfl ?_
  refine o_iloadN X0 hx (hb hby d_prog_15_method_16_code_49) (v := (o_m2 (o_x13 (o_m1 (o_x16 (0 : Int32)))))) rfl (n := 50) rfl ?_
  refine o_bipush X0 hx (hb hby d_prog_15_method_16_code_50) (v := (16 : Int32)) rfl (n := 52) rfl ?_
  refine o_iushr X0 hx (hb hby d_prog_15_method_16_code_52) (v := ((o_m2 (o_x13 (o_m1 (o_x16 (0 : Int32))))).toUInt32 >>> (16 : UInt32)).toInt32) (congrArg (fun q : UInt32 => ((o_m2 (o_x13 (o_m1 (o_x16 (0 : Int32))))).toUInt32 >>> q).toInt32) (show ((16 : Int32) &&& 31).toUInt32 = 16 by decide)) (n := 53) rfl ?_
  refine o_ixor X0 hx (hb hby d_prog_15_method_16_code_53) (v := (o_x16 (o_m2 (o_x13 (o_m1 (o_x16 (0 : Int32))))))) rfl (n := 54) rfl ?_
  exact o_ireturn X0 hx hret hlk (hb hby d_prog_15_method_16_code_54) (by decide) (by decide) e0 ⟨rfl, rfl, rfl⟩
theorem d_prog_15_method_16_code_9 : decode prog_15_method_16_code 9 = .ok (.iload_n 2, 1) := by decide +kernel
theorem d_prog_15_method_16_code_10 : decode prog_15_method_16_code 10 = .ok (.ldc 77, 2) := by decide +kernel
theorem d_prog_15_method_16_code_12 : decode prog_15_method_16_code 12 = .ok (.imul, 1) := by decide +kernel
theorem d_prog_15_method_16_code_13 : decode prog_15_method_16_code 13 = .ok (.aload_n 0, 1) := by decide +kernel
theorem d_prog_15_method_16_code_14 : decode prog_15_method_16_code 14 = .ok (.iload_n 3, 1) := by decide +kernel
theorem d_prog_15_method_16_code_15 : decode prog_15_method_16_code 15 = .ok (.iaload, 1) := by decide +kernel
theorem d_prog_15_method_16_code_16 : decode prog_15_method_16_code 16 = .ok (.iadd, 1) := by decide +kernel
theorem d_prog_15_method_16_code_17 : decode prog_15_method_16_code 17 = .ok (.istore_n 2, 1) := by decide +kernel
theorem d_prog_15_method_16_code_18 : decode prog_15_method_16_code 18 = .ok (.iinc 3 1, 3) := by decide +kernel
theorem d_prog_15_method_16_code_21 : decode prog_15_method_16_code 21 = .ok (.goto (-17), 3) := by decide +kernel
theorem o_ef2 (m : MethodId) (a1 : Addr) : entryFrame m #[(.ref a1), (.int (1 : Int32))] 4 = mkF m 0 #[.val (.ref a1), .val (.int (1 : Int32)), .unset, .unset] [] := by first | (simp [entryFrame, mkF, argsToLocals, Value.category]; done) | rfl
set_option maxRecDepth 65536 in
set_option maxHeartbeats 40000000 in
theorem c_hash_1 (l : Launch) (Z : State) (a0 : Array Value) (hw : ∀ d ∈ tables_1, d.before a0 Z = true) (a1 : Addr) (k1 : ClassId) (w0 : Int32) (w1 : Int32) (w2 : Int32) (w3 : Int32) (w4 : Int32) (h0 : Heap) (pV_a1 : Arv Z h0 a1 k1 .int (5 : Int32) [(.int w0), (.int w1), (.int w2), (.int w3), (.int w4)] (.int (0 : Int32))) :
    Does l Z (⟨"acyclon/core/EdgeSets", "hash", "([II)I"⟩ : MethodName) prog_15_method_16_code 4 (some .int) [] ({ frames := 0, cells := 0, slots := 0, locals := 0 } : Room) #[(.ref a1), (.int (1 : Int32))] h0 (Pur h0 (.int (o_x16 (o_m2 (o_x13 (o_m1 (o_x16 (o_h (1 : Int32) w0)))))))) := by
  refine Does.of (plainFor_of_name o_pn0) ?_
  intro p e s m below meth c T0 hx hby hml hown hnm hret hlk hZ X0 e0
  have hown : s.vm.findClass "acyclon/core/EdgeSets" = some m.cls := hown
  have hml : c.maxLocals = 4 := hml
  have hret : meth.sig.returnType = some .int := hret
  refine o_entry (o_ef2 m a1) ?_
  refine o_iloadN X0 hx (hb hby d_prog_15_method_16_code_0) (v := (1 : Int32)) rfl (n := 1) rfl ?_
  refine o_istoreN X0 hx (hb hby d_prog_15_method_16_code_1) (Ls' := #[.val (.ref a1), .val (.int (1 : Int32)), .val (.int (1 : Int32)), .unset]) rfl (n := 2) rfl ?_
  refine o_iconst X0 hx (hb hby d_prog_15_method_16_code_2) (v := (0 : Int32)) rfl (n := 3) rfl ?_
  refine o_istoreN X0 hx (hb hby d_prog_15_method_16_code_3) (Ls' := #[.val (.ref a1), .val (.int (1 : Int32)), .val (.int (1 : Int32)), .val (.int (0 : Int32))]) rfl (n := 4) rfl ?_
  refine o_iloadN X0 hx (hb hby d_prog_15_method_16_code_4) (v := (0 : Int32)) rfl (n := 5) rfl ?_
  refine o_iloadN X0 hx (hb hby d_prog_15_method_16_code_5) (v := (1 : Int32)) rfl (n := 6) rfl ?_
  refine o_icmpN X0 hx (hb hby d_prog_15_method_16_code_6) (XT.ii_ge_f (by decide)) (n := 9) rfl ?_
  refine o_iloadN X0 hx (hb hby d_prog_15_method_16_code_9) (v := (1 : Int32)) rfl (n := 10) rfl ?_
  refine o_ldc X0 hx hZ (v := (-1640531527 : Int32)) hown (hw _ (List.mem_of_getElem? (i := 15) rfl)) (hb hby d_prog_15_method_16_code_10) (n := 12) rfl ?_
  refine o_imul X0 hx (hb hby d_prog_15_method_16_code_12) (v := ((1 : Int32) * (-1640531527 : Int32))) rfl (n := 13) rfl ?_
  refine o_aloadN X0 hx (hb hby d_prog_15_method_16_code_13) (v := (.ref a1)) rfl rfl (n := 14) rfl ?_
  refine o_iloadN X0 hx (hb hby d_prog_15_method_16_code_14) (v := (0 : Int32)) rfl (n := 15) rfl ?_
  refine o_iaload X0 hx hZ e0 pV_a1 (0) (by decide) (by decide) (v := (.int w0)) rfl (hb hby d_prog_15_method_16_code_15) (n := 16) rfl ?_
  refine o_iadd X0 hx (hb hby d_prog_15_method_16_code_16) (v := (o_h (1 : Int32) w0)) rfl (n := 17) rfl ?_
  refine o_istoreN X0 hx (hb hby d_prog_15_method_16_code_17) (Ls' := #[.val (.ref a1), .val (.int (1 : Int32)), .val (.int (o_h (1 : Int32) w0)), .val (.int (0 : Int32))]) rfl (n := 18) rfl ?_
  refine o_iinc X0 hx (hb hby d_prog_15_method_16_code_18) (w := (1 : Int32)) rfl (by decide) (Ls' := #[.val (.ref a1), .val (.int (1 : Int32)), .val (.int (o_h (1 : Int32) w0)), .val (.int (1 : Int32))]) rfl (n := 21) rfl ?_
  refine o_goto X0 hx (hb hby d_prog_15_method_16_code_21) (by decide) (n := 4) (by decide) ?_
  refine o_iloadN X0 hx (hb hby d_prog_15_method_16_code_4) (v := (1 : Int32)) rfl (n := 5) rfl ?_
  refine o_iloadN X0 hx (hb hby d_prog_15_method_16_code_5) (v := (1 : Int32)) rfl (n := 6) rfl ?_
  refine o_icmpY X0 hx (hb hby d_prog_15_method_16_code_6) (XT.ii_ge_t (by decide)) (by decide) (n := 24) (by decide) ?_
  refine o_iloadN X0 hx (hb hby d_prog_15_method_16_code_24) (v := (o_h (1 : Int32) w0)) rfl (n := 25) rfl ?_
  refine o_iloadN X0 hx (hb hby d_prog_15_method_16_code_25) (v := (o_h (1 : Int32) w0)) rfl (n := 26) rfl ?_
  refine o_bipush X0 hx (hb hby d_prog_15_method_16_code_26) (v := (16 : Int32)) rfl (n := 28) rfl ?_
  refine o_iushr X0 hx (hb hby d_prog_15_method_16_code_28) (v := ((o_h (1 : Int32) w0).toUInt32 >>> (16 : UInt32)).toInt32) (congrArg (fun q : UInt32 => ((o_h (1 : Int32) w0).toUInt32 >>> q).toInt32) (show ((16 : Int32) &&& 31).toUInt32 = 16 by decide)) (n := 29) rfl ?_
  refine o_ixor X0 hx (hb hby d_prog_15_method_16_code_29) (v := (o_x16 (o_h (1 : Int32) w0))) rfl (n := 30) rfl ?_
  refine o_istoreN X0 hx (hb hby d_prog_15_method_16_code_30) (Ls' := #[.val (.ref a1), .val (.int (1 : Int32)), .val (.int (o_x16 (o_h (1 : Int32) w0))), .val (.int (1 : Int32))]) rfl (n := 31) rfl ?_
  refine o_iloadN X0 hx (hb hby d_prog_15_method_16_code_31) (v := (o_x16 (o_h (1 : Int32) w0))) rfl (n := 32) rfl ?_
  refine o_ldc X0 hx hZ (v := (-2048144789 : Int32)) hown (hw _ (List.mem_of_getElem? (i := 6) rfl)) (hb hby d_prog_15_method_16_code_32) (n := 34) rfl ?_
  refine o_imul X0 hx (hb hby d_prog_15_method_16_code_34) (v := (o_m1 (o_x16 (o_h (1 : Int32) w0)))) rfl (n := 35) rfl ?_
  refine o_istoreN X0 hx (hb hby d_prog_15_method_16_code_35) (Ls' := #[.val (.ref a1), .val (.int (1 : Int32)), .val (.int (o_m1 (o_x16 (o_h (1 : Int32) w0)))), .val (.int (1 : Int32))]) rfl (n := 36) rfl ?_
  refine o_iloadN X0 hx (hb hby d_prog_15_method_16_code_36) (v := (o_m1 (o_x16 (o_h (1 : Int32) w0)))) rfl (n := 37) rfl ?_
  refine o_iloadN X0 hx (hb hby d_prog_15_method_16_code_37) (v := (o_m1 (o_x16 (o_h (1 : Int32) w0)))) rfl (n := 38) rfl ?_
  refine o_bipush X0 hx (hb hby d_prog_15_method_16_code_38) (v := (13 : Int32)) rfl (n := 40) rfl ?_
  refine o_iushr X0 hx (hb hby d_prog_15_method_16_code_40) (v := ((o_m1 (o_x16 (o_h (1 : Int32) w0))).toUInt32 >>> (13 : UInt32)).toInt32) (congrArg (fun q : UInt32 => ((o_m1 (o_x16 (o_h (1 : Int32) w0))).toUInt32 >>> q).toInt32) (show ((13 : Int32) &&& 31).toUInt32 = 13 by decide)) (n := 41) rfl ?_
  refine o_ixor X0 hx (hb hby d_prog_15_method_16_code_41) (v := (o_x13 (o_m1 (o_x16 (o_h (1 : Int32) w0))))) rfl (n := 42) rfl ?_
  refine o_istoreN X0 hx (hb hby d_prog_15_method_16_code_42) (Ls' := #[.val (.ref a1), .val (.int (1 : Int32)), .val (.int (o_x13 (o_m1 (o_x16 (o_h (1 : Int32) w0))))), .val (.int (1 : Int32))]) rfl (n := 43) rfl ?_
  refine o_iloadN X0 hx (hb hby d_prog_15_method_16_code_43) (v := (o_x13 (o_m1 (o_x16 (o_h (1 : Int32) w0))))) rfl (n := 44) rfl ?_
  refine o_ldc X0 hx hZ (v := (-1028477387 : Int32)) hown (hw _ (List.mem_of_getElem? (i := 7) rfl)) (hb hby d_prog_15_method_16_code_44) (n := 46) rfl ?_
  refine o_imul X0 hx (hb hby d_prog_15_method_16_code_46) (v := (o_m2 (o_x13 (o_m1 (o_x16 (o_h (1 : Int32) w0)))))) rfl (n := 47) rfl ?_
  refine o_istoreN X0 hx (hb hby d_prog_15_method_16_code_47) (Ls' := #[.val (.ref a1), .val (.int (1 : Int32)), .val (.int (o_m2 (o_x13 (o_m1 (o_x16 (o_h (1 : Int32) w0)))))), .val (.int (1 : Int32))]) rfl (n := 48) rfl ?_
  refine o_iloadN X0 hx (hb hby d_prog_15_method_16_code_48) (v := (o_m2 (o_x13 (o_m1 (o_x16 (o_h (1 : Int32) w0)))))) rfl (n := 49) rfl ?_
  refine o_iloadN X0 hx (hb hby d_prog_15_method_16_code_49) (v := (o_m2 (o_x13 (o_m1 (o_x16 (o_h (1 : Int32) w0)))))) rfl (n := 50) rfl ?_
  refine o_bipush X0 hx (hb hby d_prog_15_method_16_code_50) (v := (16 : Int32)) rfl (n := 52) rfl ?_
  refine o_iushr X0 hx (hb hby d_prog_15_method_16_code_52) (v := ((o_m2 (o_x13 (o_m1 (o_x16 (o_h (1 : Int32) w0))))).toUInt32 >>> (16 : UInt32)).toInt32) (congrArg (fun q : UInt32 => ((o_m2 (o_x13 (o_m1 (o_x16 (o_h (1 : Int32) w0))))).toUInt32 >>> q).toInt32) (show ((16 : Int32) &&& 31).toUInt32 = 16 by decide)) (n := 53) rfl ?_
  refine o_ixor X0 hx (hb hby d_prog_15_method_16_code_53) (v := (o_x16 (o_m2 (o_x13 (o_m1 (o_x16 (o_h (1 : Int32) w0))))))) rfl (n := 54) rfl ?_
  exact o_ireturn X0 hx hret hlk (hb hby d_prog_15_method_16_code_54) (by decide) (by decide) e0 ⟨rfl, rfl, rfl⟩
theorem o_ef3 (m : MethodId) (a1 : Addr) : entryFrame m #[(.ref a1), (.int (2 : Int32))] 4 = mkF m 0 #[.val (.ref a1), .val (.int (2 : Int32)), .unset, .unset] [] := by first | (simp [entryFrame, mkF, argsToLocals, Value.category]; done) | rfl
set_option maxRecDepth 65536 in
set_option maxHeartbeats 40000000 in
theorem c_hash_2 (l : Launch) (Z : State) (a0 : Array Value) (hw : ∀ d ∈ tables_1, d.before a0 Z = true) (a1 : Addr) (k1 : ClassId) (w0 : Int32) (w1 : Int32) (w2 : Int32) (w3 : Int32) (w4 : Int32) (h0 : Heap) (pV_a1 : Arv Z h0 a1 k1 .int (5 : Int32) [(.int w0), (.int w1), (.int w2), (.int w3), (.int w4)] (.int (0 : Int32))) :
    Does l Z (⟨"acyclon/core/EdgeSets", "hash", "([II)I"⟩ : MethodName) prog_15_method_16_code 4 (some .int) [] ({ frames := 0, cells := 0, slots := 0, locals := 0 } : Room) #[(.ref a1), (.int (2 : Int32))] h0 (Pur h0 (.int (o_x16 (o_m2 (o_x13 (o_m1 (o_x16 (o_h (o_h (2 : Int32) w0) w1)))))))) := by
  refine Does.of (plainFor_of_name o_pn0) ?_
  intro p e s m below meth c T0 hx hby hml hown hnm hret hlk hZ X0 e0
  have hown : s.vm.findClass "acyclon/core/EdgeSets" = some m.cls := hown
  have hml : c.maxLocals = 4 := hml
  have hret : meth.sig.returnType = some .int := hret
  refine o_entry (o_ef3 m a1) ?_
  refine o_iloadN X0 hx (hb hby d_prog_15_method_16_code_0) (v := (2 : Int32)) rfl (n := 1) rfl ?_
  refine o_istoreN X0 hx (hb hby d_prog_15_method_16_code_1) (Ls' := #[.val (.ref a1), .val (.int (2 : Int32)), .val (.int (2 : Int32)), .unset]) rfl (n := 2) rfl ?_
  refine o_iconst X0 hx (hb hby d_prog_15_method_16_code_2) (v := (0 : Int32)) rfl (n := 3) rfl ?_
  refine o_istoreN X0 hx (hb hby d_prog_15_method_16_code_3) (Ls' := #[.val (.ref a1), .val (.int (2 : Int32)), .val (.int (2 : Int32)), .val (.int (0 : Int32))]) rfl (n := 4) rfl ?_
  refine o_iloadN X0 hx (hb hby d_prog_15_method_16_code_4) (v := (0 : Int32)) rfl (n := 5) rfl ?_
  refine o_iloadN X0 hx (hb hby d_prog_15_method_16_code_5) (v := (2 : Int32)) rfl (n := 6) rfl ?_
  refine o_icmpN X0 hx (hb hby d_prog_15_method_16_code_6) (XT.ii_ge_f (by decide)) (n := 9) rfl ?_
  refine o_iloadN X0 hx (hb hby d_prog_15_method_16_code_9) (v := (2 : Int32)) rfl (n := 10) rfl ?_
  refine o_ldc X0 hx hZ (v := (-1640531527 : Int32)) hown (hw _ (List.mem_of_getElem? (i := 15) rfl)) (hb hby d_prog_15_method_16_code_10) (n := 12) rfl ?_
  refine o_imul X0 hx (hb hby d_prog_15_method_16_code_12) (v := ((2 : Int32) * (-1640531527 : Int32))) rfl (n := 13) rfl ?_
  refine o_aloadN X0 hx (hb hby d_prog_15_method_16_code_13) (v := (.ref a1)) rfl rfl (n := 14) rfl ?_
  refine o_iloadN X0 hx (hb hby d_prog_15_method_16_code_14) (v := (0 : Int32)) rfl (n := 15) rfl ?_
  refine o_iaload X0 hx hZ e0 pV_a1 (0) (by decide) (by decide) (v := (.int w0)) rfl (hb hby d_prog_15_method_16_code_15) (n := 16) rfl ?_
  refine o_iadd X0 hx (hb hby d_prog_15_method_16_code_16) (v := (o_h (2 : Int32) w0)) rfl (n := 17) rfl ?_
  refine o_istoreN X0 hx (hb hby d_prog_15_method_16_code_17) (Ls' := #[.val (.ref a1), .val (.int (2 : Int32)), .val (.int (o_h (2 : Int32) w0)), .val (.int (0 : Int32))]) rfl (n := 18) rfl ?_
  refine o_iinc X0 hx (hb hby d_prog_15_method_16_code_18) (w := (1 : Int32)) rfl (by decide) (Ls' := #[.val (.ref a1), .val (.int (2 : Int32)), .val (.int (o_h (2 : Int32) w0)), .val (.int (1 : Int32))]) rfl (n := 21) rfl ?_
  refine o_goto X0 hx (hb hby d_prog_15_method_16_code_21) (by decide) (n := 4) (by decide) ?_
  refine o_iloadN X0 hx (hb hby d_prog_15_method_16_code_4) (v := (1 : Int32)) rfl (n := 5) rfl ?_
  refine o_iloadN X0 hx (hb hby d_prog_15_method_16_code_5) (v := (2 : Int32)) rfl (n := 6) rfl ?_
  refine o_icmpN X0 hx (hb hby d_prog_15_method_16_code_6) (XT.ii_ge_f (by decide)) (n := 9) rfl ?_
  refine o_iloadN X0 hx (hb hby d_prog_15_method_16_code_9) (v := (o_h (2 : Int32) w0)) rfl (n := 10) rfl ?_
  refine o_ldc X0 hx hZ (v := (-1640531527 : Int32)) hown (hw _ (List.mem_of_getElem? (i := 15) rfl)) (hb hby d_prog_15_method_16_code_10) (n := 12) rfl ?_
  refine o_imul X0 hx (hb hby d_prog_15_method_16_code_12) (v := ((o_h (2 : Int32) w0) * (-1640531527 : Int32))) rfl (n := 13) rfl ?_
  refine o_aloadN X0 hx (hb hby d_prog_15_method_16_code_13) (v := (.ref a1)) rfl rfl (n := 14) rfl ?_
  refine o_iloadN X0 hx (hb hby d_prog_15_method_16_code_14) (v := (1 : Int32)) rfl (n := 15) rfl ?_
  refine o_iaload X0 hx hZ e0 pV_a1 (1) (by decide) (by decide) (v := (.int w1)) rfl (hb hby d_prog_15_method_16_code_15) (n := 16) rfl ?_
  refine o_iadd X0 hx (hb hby d_prog_15_method_16_code_16) (v := (o_h (o_h (2 : Int32) w0) w1)) rfl (n := 17) rfl ?_
  refine o_istoreN X0 hx (hb hby d_prog_15_method_16_code_17) (Ls' := #[.val (.ref a1), .val (.int (2 : Int32)), .val (.int (o_h (o_h (2 : Int32) w0) w1)), .val (.int (1 : Int32))]) rfl (n := 18) rfl ?_
  refine o_iinc X0 hx (hb hby d_prog_15_method_16_code_18) (w := (2 : Int32)) rfl (by decide) (Ls' := #[.val (.ref a1), .val (.int (2 : Int32)), .val (.int (o_h (o_h (2 : Int32) w0) w1)), .val (.int (2 : Int32))]) rfl (n := 21) rfl ?_
  refine o_goto X0 hx (hb hby d_prog_15_method_16_code_21) (by decide) (n := 4) (by decide) ?_
  refine o_iloadN X0 hx (hb hby d_prog_15_method_16_code_4) (v := (2 : Int32)) rfl (n := 5) rfl ?_
  refine o_iloadN X0 hx (hb hby d_prog_15_method_16_code_5) (v := (2 : Int32)) rfl (n := 6) rfl ?_
  refine o_icmpY X0 hx (hb hby d_prog_15_method_16_code_6) (XT.ii_ge_t (by decide)) (by decide) (n := 24) (by decide) ?_
  refine o_iloadN X0 hx (hb hby d_prog_15_method_16_code_24) (v := (o_h (o_h (2 : Int32) w0) w1)) rfl (n := 25) rfl ?_
  refine o_iloadN X0 hx (hb hby d_prog_15_method_16_code_25) (v := (o_h (o_h (2 : Int32) w0) w1)) rfl (n := 26) rfl ?_
  refine o_bipush X0 hx (hb hby d_prog_15_method_16_code_26) (v := (16 : Int32)) rfl (n := 28) rfl ?_
  refine o_iushr X0 hx (hb hby d_prog_15_method_16_code_28) (v := ((o_h (o_h (2 : Int32) w0) w1).toUInt32 >>> (16 : UInt32)).toInt32) (congrArg (fun q : UInt32 => ((o_h (o_h (2 : Int32) w0) w1).toUInt32 >>> q).toInt32) (show ((16 : Int32) &&& 31).toUInt32 = 16 by decide)) (n := 29) rfl ?_
  refine o_ixor X0 hx (hb hby d_prog_15_method_16_code_29) (v := (o_x16 (o_h (o_h (2 : Int32) w0) w1))) rfl (n := 30) rfl ?_
  refine o_istoreN X0 hx (hb hby d_prog_15_method_16_code_30) (Ls' := #[.val (.ref a1), .val (.int (2 : Int32)), .val (.int (o_x16 (o_h (o_h (2 : Int32) w0) w1))), .val (.int (2 : Int32))]) rfl (n := 31) rfl ?_
  refine o_iloadN X0 hx (hb hby d_prog_15_method_16_code_31) (v := (o_x16 (o_h (o_h (2 : Int32) w0) w1))) rfl (n := 32) rfl ?_
  refine o_ldc X0 hx hZ (v := (-2048144789 : Int32)) hown (hw _ (List.mem_of_getElem? (i := 6) rfl)) (hb hby d_prog_15_method_16_code_32) (n := 34) rfl ?_
  refine o_imul X0 hx (hb hby d_prog_15_method_16_code_34) (v := (o_m1 (o_x16 (o_h (o_h (2 : Int32) w0) w1)))) rfl (n := 35) rfl ?_
  refine o_istoreN X0 hx (hb hby d_prog_15_method_16_code_35) (Ls' := #[.val (.ref a1), .val (.int (2 : Int32)), .val (.int (o_m1 (o_x16 (o_h (o_h (2 : Int32) w0) w1)))), .val (.int (2 : Int32))]) rfl (n := 36) rfl ?_
  refine o_iloadN X0 hx (hb hby d_prog_15_method_16_code_36) (v := (o_m1 (o_x16 (o_h (o_h (2 : Int32) w0) w1)))) rfl (n := 37) rfl ?_
  refine o_iloadN X0 hx (hb hby d_prog_15_method_16_code_37) (v := (o_m1 (o_x16 (o_h (o_h (2 : Int32) w0) w1)))) rfl (n := 38) rfl ?_
  refine o_bipush X0 hx (hb hby d_prog_15_method_16_code_38) (v := (13 : Int32)) rfl (n := 40) rfl ?_
  refine o_iushr X0 hx (hb hby d_prog_15_method_16_code_40) (v := ((o_m1 (o_x16 (o_h (o_h (2 : Int32) w0) w1))).toUInt32 >>> (13 : UInt32)).toInt32) (congrArg (fun q : UInt32 => ((o_m1 (o_x16 (o_h (o_h (2 : Int32) w0) w1))).toUInt32 >>> q).toInt32) (show ((13 : Int32) &&& 31).toUInt32 = 13 by decide)) (n := 41) rfl ?_
  refine o_ixor X0 hx (hb hby d_prog_15_method_16_code_41) (v := (o_x13 (o_m1 (o_x16 (o_h (o_h (2 : Int32) w0) w1))))) rfl (n := 42) rfl ?_
  refine o_istoreN X0 hx (hb hby d_prog_15_method_16_code_42) (Ls' := #[.val (.ref a1), .val (.int (2 : Int32)), .val (.int (o_x13 (o_m1 (o_x16 (o_h (o_h (2 : Int32) w0) w1))))), .val (.int (2 : Int32))]) rfl (n := 43) rfl ?_
  refine o_iloadN X0 hx (hb hby d_prog_15_method_16_code_43) (v := (o_x13 (o_m1 (o_x16 (o_h (o_h (2 : Int32) w0) w1))))) rfl (n := 44) rfl ?_
  refine o_ldc X0 hx hZ (v := (-1028477387 : Int32)) hown (hw _ (List.mem_of_getElem? (i := 7) rfl)) (hb hby d_prog_15_method_16_code_44) (n := 46) rfl ?_
  refine o_imul X0 hx (hb hby d_prog_15_method_16_code_46) (v := (o_m2 (o_x13 (o_m1 (o_x16 (o_h (o_h (2 : Int32) w0) w1)))))) rfl (n := 47) rfl ?_
  refine o_istoreN X0 hx (hb hby d_prog_15_method_16_code_47) (Ls' := #[.val (.ref a1), .val (.int (2 : Int32)), .val (.int (o_m2 (o_x13 (o_m1 (o_x16 (o_h (o_h (2 : Int32) w0) w1)))))), .val (.int (2 : Int32))]) rfl (n := 48) rfl ?_
  refine o_iloadN X0 hx (hb hby d_prog_15_method_16_code_48) (v := (o_m2 (o_x13 (o_m1 (o_x16 (o_h (o_h (2 : Int32) w0) w1)))))) rfl (n := 49) rfl ?_
  refine o_iloadN X0 hx (hb hby d_prog_15_method_16_code_49) (v := (o_m2 (o_x13 (o_m1 (o_x16 (o_h (o_h (2 : Int32) w0) w1)))))) rfl (n := 50) rfl ?_
  refine o_bipush X0 hx (hb hby d_prog_15_method_16_code_50) (v := (16 : Int32)) rfl (n := 52) rfl ?_
  refine o_iushr X0 hx (hb hby d_prog_15_method_16_code_52) (v := ((o_m2 (o_x13 (o_m1 (o_x16 (o_h (o_h (2 : Int32) w0) w1))))).toUInt32 >>> (16 : UInt32)).toInt32) (congrArg (fun q : UInt32 => ((o_m2 (o_x13 (o_m1 (o_x16 (o_h (o_h (2 : Int32) w0) w1))))).toUInt32 >>> q).toInt32) (show ((16 : Int32) &&& 31).toUInt32 = 16 by decide)) (n := 53) rfl ?_
  refine o_ixor X0 hx (hb hby d_prog_15_method_16_code_53) (v := (o_x16 (o_m2 (o_x13 (o_m1 (o_x16 (o_h (o_h (2 : Int32) w0) w1))))))) rfl (n := 54) rfl ?_
  exact o_ireturn X0 hx hret hlk (hb hby d_prog_15_method_16_code_54) (by decide) (by decide) e0 ⟨rfl, rfl, rfl⟩
theorem o_ef4 (m : MethodId) (a1 : Addr) : entryFrame m #[(.ref a1), (.int (3 : Int32))] 4 = mkF m 0 #[.val (.ref a1), .val (.int (3 : Int32)), .unset, .unset] [] := by first | (simp [entryFrame, mkF, argsToLocals, Value.category]; done) | rfl
set_option maxRecDepth 65536 in
set_option maxHeartbeats 40000000 in
theorem c_hash_3 (l : Launch) (Z : State) (a0 : Array Value) (hw : ∀ d ∈ tables_1, d.before a0 Z = true) (a1 : Addr) (k1 : ClassId) (w0 : Int32) (w1 : Int32) (w2 : Int32) (w3 : Int32) (w4 : Int32) (h0 : Heap) (pV_a1 : Arv Z h0 a1 k1 .int (5 : Int32) [(.int w0), (.int w1), (.int w2), (.int w3), (.int w4)] (.int (0 : Int32))) :
    Does l Z (⟨"acyclon/core/EdgeSets", "hash", "([II)I"⟩ : MethodName) prog_15_method_16_code 4 (some .int) [] ({ frames := 0, cells := 0, slots := 0, locals := 0 } : Room) #[(.ref a1), (.int (3 : Int32))] h0 (Pur h0 (.int (o_x16 (o_m2 (o_x13 (o_m1 (o_x16 (o_h (o_h (o_h (3 : Int32) w0) w1) w2)))))))) := by
  refine Does.of (plainFor_of_name o_pn0) ?_
  intro p e s m below meth c T0 hx hby hml hown hnm hret hlk hZ X0 e0
  have hown : s.vm.findClass "acyclon/core/EdgeSets" = some m.cls := hown
  have hml : c.maxLocals = 4 := hml
  have hret : meth.sig.returnType = some .int := hret
  refine o_entry (o_ef4 m a1) ?_
  refine o_iloadN X0 hx (hb hby d_prog_15_method_16_code_0) (v := (3 : Int32)) rfl (n := 1) rfl ?_
  refine o_istoreN X0 hx (hb hby d_prog_15_method_16_code_1) (Ls' := #[.val (.ref a1), .val (.int (3 : Int32)), .val (.int (3 : Int32)), .unset]) rfl (n := 2) rfl ?_
  refine o_iconst X0 hx (hb hby d_prog_15_method_16_code_2) (v := (0 : Int32)) rfl (n := 3) rfl ?_
  refine o_istoreN X0 hx (hb hby d_prog_15_method_16_code_3) (Ls' := #[.val (.ref a1), .val (.int (3 : Int32)), .val (.int (3 : Int32)), .val (.int (0 : Int32))]) rfl (n := 4) rfl ?_
  refine o_iloadN X0 hx (hb hby d_prog_15_method_16_code_4) (v := (0 : Int32)) rfl (n := 5) rfl ?_
  refine o_iloadN X0 hx (hb hby d_prog_15_method_16_code_5) (v := (3 : Int32)) rfl (n := 6) rfl ?_
  refine o_icmpN X0 hx (hb hby d_prog_15_method_16_code_6) (XT.ii_ge_f (by decide)) (n := 9) rfl ?_
  refine o_iloadN X0 hx (hb hby d_prog_15_method_16_code_9) (v := (3 : Int32)) rfl (n := 10) rfl ?_
  refine o_ldc X0 hx hZ (v := (-1640531527 : Int32)) hown (hw _ (List.mem_of_getElem? (i := 15) rfl)) (hb hby d_prog_15_method_16_code_10) (n := 12) rfl ?_
  refine o_imul X0 hx (hb hby d_prog_15_method_16_code_12) (v := ((3 : Int32) * (-1640531527 : Int32))) rfl (n := 13) rfl ?_
  refine o_aloadN X0 hx (hb hby d_prog_15_method_16_code_13) (v := (.ref a1)) rfl rfl (n := 14) rfl ?_
  refine o_iloadN X0 hx (hb hby d_prog_15_method_16_code_14) (v := (0 : Int32)) rfl (n := 15) rfl ?_
  refine o_iaload X0 hx hZ e0 pV_a1 (0) (by decide) (by decide) (v := (.int w0)) rfl (hb hby d_prog_15_method_16_code_15) (n := 16) rfl ?_
  refine o_iadd X0 hx (hb hby d_prog_15_method_16_code_16) (v := (o_h (3 : Int32) w0)) rfl (n := 17) rfl ?_
  refine o_istoreN X0 hx (hb hby d_prog_15_method_16_code_17) (Ls' := #[.val (.ref a1), .val (.int (3 : Int32)), .val (.int (o_h (3 : Int32) w0)), .val (.int (0 : Int32))]) rfl (n := 18) rfl ?_
  refine o_iinc X0 hx (hb hby d_prog_15_method_16_code_18) (w := (1 : Int32)) rfl (by decide) (Ls' := #[.val (.ref a1), .val (.int (3 : Int32)), .val (.int (o_h (3 : Int32) w0)), .val (.int (1 : Int32))]) rfl (n := 21) rfl ?_
  refine o_goto X0 hx (hb hby d_prog_15_method_16_code_21) (by decide) (n := 4) (by decide) ?_
  refine o_iloadN X0 hx (hb hby d_prog_15_method_16_code_4) (v := (1 : Int32)) rfl (n := 5) rfl ?_
  refine o_iloadN X0 hx (hb hby d_prog_15_method_16_code_5) (v := (3 : Int32)) rfl (n := 6) rfl ?_
  refine o_icmpN X0 hx (hb hby d_prog_15_method_16_code_6) (XT.ii_ge_f (by decide)) (n := 9) rfl ?_
  refine o_iloadN X0 hx (hb hby d_prog_15_method_16_code_9) (v := (o_h (3 : Int32) w0)) rfl (n := 10) rfl ?_
  refine o_ldc X0 hx hZ (v := (-1640531527 : Int32)) hown (hw _ (List.mem_of_getElem? (i := 15) rfl)) (hb hby d_prog_15_method_16_code_10) (n := 12) rfl ?_
  refine o_imul X0 hx (hb hby d_prog_15_method_16_code_12) (v := ((o_h (3 : Int32) w0) * (-1640531527 : Int32))) rfl (n := 13) rfl ?_
  refine o_aloadN X0 hx (hb hby d_prog_15_method_16_code_13) (v := (.ref a1)) rfl rfl (n := 14) rfl ?_
  refine o_iloadN X0 hx (hb hby d_prog_15_method_16_code_14) (v := (1 : Int32)) rfl (n := 15) rfl ?_
  refine o_iaload X0 hx hZ e0 pV_a1 (1) (by decide) (by decide) (v := (.int w1)) rfl (hb hby d_prog_15_method_16_code_15) (n := 16) rfl ?_
  refine o_iadd X0 hx (hb hby d_prog_15_method_16_code_16) (v := (o_h (o_h (3 : Int32) w0) w1)) rfl (n := 17) rfl ?_
  refine o_istoreN X0 hx (hb hby d_prog_15_method_16_code_17) (Ls' := #[.val (.ref a1), .val (.int (3 : Int32)), .val (.int (o_h (o_h (3 : Int32) w0) w1)), .val (.int (1 : Int32))]) rfl (n := 18) rfl ?_
  refine o_iinc X0 hx (hb hby d_prog_15_method_16_code_18) (w := (2 : Int32)) rfl (by decide) (Ls' := #[.val (.ref a1), .val (.int (3 : Int32)), .val (.int (o_h (o_h (3 : Int32) w0) w1)), .val (.int (2 : Int32))]) rfl (n := 21) rfl ?_
  refine o_goto X0 hx (hb hby d_prog_15_method_16_code_21) (by decide) (n := 4) (by decide) ?_
  refine o_iloadN X0 hx (hb hby d_prog_15_method_16_code_4) (v := (2 : Int32)) rfl (n := 5) rfl ?_
  refine o_iloadN X0 hx (hb hby d_prog_15_method_16_code_5) (v := (3 : Int32)) rfl (n := 6) rfl ?_
  refine o_icmpN X0 hx (hb hby d_prog_15_method_16_code_6) (XT.ii_ge_f (by decide)) (n := 9) rfl ?_
  refine o_iloadN X0 hx (hb hby d_prog_15_method_16_code_9) (v := (o_h (o_h (3 : Int32) w0) w1)) rfl (n := 10) rfl ?_
  refine o_ldc X0 hx hZ (v := (-1640531527 : Int32)) hown (hw _ (List.mem_of_getElem? (i := 15) rfl)) (hb hby d_prog_15_method_16_code_10) (n := 12) rfl ?_
  refine o_imul X0 hx (hb hby d_prog_15_method_16_code_12) (v := ((o_h (o_h (3 : Int32) w0) w1) * (-1640531527 : Int32))) rfl (n := 13) rfl ?_
  refine o_aloadN X0 hx (hb hby d_prog_15_method_16_code_13) (v := (.ref a1)) rfl rfl (n := 14) rfl ?_
  refine o_iloadN X0 hx (hb hby d_prog_15_method_16_code_14) (v := (2 : Int32)) rfl (n := 15) rfl ?_
  refine o_iaload X0 hx hZ e0 pV_a1 (2) (by decide) (by decide) (v := (.int w2)) rfl (hb hby d_prog_15_method_16_code_15) (n := 16) rfl ?_
  refine o_iadd X0 hx (hb hby d_prog_15_method_16_code_16) (v := (o_h (o_h (o_h (3 : Int32) w0) w1) w2)) rfl (n := 17) rfl ?_
  refine o_istoreN X0 hx (hb hby d_prog_15_method_16_code_17) (Ls' := #[.val (.ref a1), .val (.int (3 : Int32)), .val (.int (o_h (o_h (o_h (3 : Int32) w0) w1) w2)), .val (.int (2 : Int32))]) rfl (n := 18) rfl ?_
  refine o_iinc X0 hx (hb hby d_prog_15_method_16_code_18) (w := (3 : Int32)) rfl (by decide) (Ls' := #[.val (.ref a1), .val (.int (3 : Int32)), .val (.int (o_h (o_h (o_h (3 : Int32) w0) w1) w2)), .val (.int (3 : Int32))]) rfl (n := 21) rfl ?_
  refine o_goto X0 hx (hb hby d_prog_15_method_16_code_21) (by decide) (n := 4) (by decide) ?_
  refine o_iloadN X0 hx (hb hby d_prog_15_method_16_code_4) (v := (3 : Int32)) rfl (n := 5) rfl ?_
  refine o_iloadN X0 hx (hb hby d_prog_15_method_16_code_5) (v := (3 : Int32)) rfl (n := 6) rfl ?_
  refine o_icmpY X0 hx (hb hby d_prog_15_method_16_code_6) (XT.ii_ge_t (by decide)) (by decide) (n := 24) (by decide) ?_
  refine o_iloadN X0 hx (hb hby d_prog_15_method_16_code_24) (v := (o_h (o_h (o_h (3 : Int32) w0) w1) w2)) rfl (n := 25) rfl ?_
  refine o_iloadN X0 hx (hb hby d_prog_15_method_16_code_25) (v := (o_h (o_h (o_h (3 : Int32) w0) w1) w2)) rfl (n := 26) rfl ?_
  refine o_bipush X0 hx (hb hby d_prog_15_method_16_code_26) (v := (16 : Int32)) rfl (n := 28) rfl ?_
  refine o_iushr X0 hx (hb hby d_prog_15_method_16_code_28) (v := ((o_h (o_h (o_h (3 : Int32) w0) w1) w2).toUInt32 >>> (16 : UInt32)).toInt32) (congrArg (fun q : UInt32 => ((o_h (o_h (o_h (3 : Int32) w0) w1) w2).toUInt32 >>> q).toInt32) (show ((16 : Int32) &&& 31).toUInt32 = 16 by decide)) (n := 29) rfl ?_
  refine o_ixor X0 hx (hb hby d_prog_15_method_16_code_29) (v := (o_x16 (o_h (o_h (o_h (3 : Int32) w0) w1) w2))) rfl (n := 30) rfl ?_
  refine o_istoreN X0 hx (hb hby d_prog_15_method_16_code_30) (Ls' := #[.val (.ref a1), .val (.int (3 : Int32)), .val (.int (o_x16 (o_h (o_h (o_h (3 : Int32) w0) w1) w2))), .val (.int (3 : Int32))]) rfl (n := 31) rfl ?_
  refine o_iloadN X0 hx (hb hby d_prog_15_method_16_code_31) (v := (o_x16 (o_h (o_h (o_h (3 : Int32) w0) w1) w2))) rfl (n := 32) rfl ?_
  refine o_ldc X0 hx hZ (v := (-2048144789 : Int32)) hown (hw _ (List.mem_of_getElem? (i := 6) rfl)) (hb hby d_prog_15_method_16_code_32) (n := 34) rfl ?_
  refine o_imul X0 hx (hb hby d_prog_15_method_16_code_34) (v := (o_m1 (o_x16 (o_h (o_h (o_h (3 : Int32) w0) w1) w2)))) rfl (n := 35) rfl ?_
  refine o_istoreN X0 hx (hb hby d_prog_15_method_16_code_35) (Ls' := #[.val (.ref a1), .val (.int (3 : Int32)), .val (.int (o_m1 (o_x16 (o_h (o_h (o_h (3 : Int32) w0) w1) w2)))), .val (.int (3 : Int32))]) rfl (n := 36) rfl ?_
  refine o_iloadN X0 hx (hb hby d_prog_15_method_16_code_36) (v := (o_m1 (o_x16 (o_h (o_h (o_h (3 : Int32) w0) w1) w2)))) rfl (n := 37) rfl ?_
  refine o_iloadN X0 hx (hb hby d_prog_15_method_16_code_37) (v := (o_m1 (o_x16 (o_h (o_h (o_h (3 : Int32) w0) w1) w2)))) rfl (n := 38) rfl ?_
  refine o_bipush X0 hx (hb hby d_prog_15_method_16_code_38) (v := (13 : Int32)) rfl (n := 40) rfl ?_
  refine o_iushr X0 hx (hb hby d_prog_15_method_16_code_40) (v := ((o_m1 (o_x16 (o_h (o_h (o_h (3 : Int32) w0) w1) w2))).toUInt32 >>> (13 : UInt32)).toInt32) (congrArg (fun q : UInt32 => ((o_m1 (o_x16 (o_h (o_h (o_h (3 : Int32) w0) w1) w2))).toUInt32 >>> q).toInt32) (show ((13 : Int32) &&& 31).toUInt32 = 13 by decide)) (n := 41) rfl ?_
  refine o_ixor X0 hx (hb hby d_prog_15_method_16_code_41) (v := (o_x13 (o_m1 (o_x16 (o_h (o_h (o_h (3 : Int32) w0) w1) w2))))) rfl (n := 42) rfl ?_
  refine o_istoreN X0 hx (hb hby d_prog_15_method_16_code_42) (Ls' := #[.val (.ref a1), .val (.int (3 : Int32)), .val (.int (o_x13 (o_m1 (o_x16 (o_h (o_h (o_h (3 : Int32) w0) w1) w2))))), .val (.int (3 : Int32))]) rfl (n := 43) rfl ?_
  refine o_iloadN X0 hx (hb hby d_prog_15_method_16_code_43) (v := (o_x13 (o_m1 (o_x16 (o_h (o_h (o_h (3 : Int32) w0) w1) w2))))) rfl (n := 44) rfl ?_
  refine o_ldc X0 hx hZ (v := (-1028477387 : Int32)) hown (hw _ (List.mem_of_getElem? (i := 7) rfl)) (hb hby d_prog_15_method_16_code_44) (n := 46) rfl ?_
  refine o_imul X0 hx (hb hby d_prog_15_method_16_code_46) (v := (o_m2 (o_x13 (o_m1 (o_x16 (o_h (o_h (o_h (3 : Int32) w0) w1) w2)))))) rfl (n := 47) rfl ?_
  refine o_istoreN X0 hx (hb hby d_prog_15_method_16_code_47) (Ls' := #[.val (.ref a1), .val (.int (3 : Int32)), .val (.int (o_m2 (o_x13 (o_m1 (o_x16 (o_h (o_h (o_h (3 : Int32) w0) w1) w2)))))), .val (.int (3 : Int32))]) rfl (n := 48) rfl ?_
  refine o_iloadN X0 hx (hb hby d_prog_15_method_16_code_48) (v := (o_m2 (o_x13 (o_m1 (o_x16 (o_h (o_h (o_h (3 : Int32) w0) w1) w2)))))) rfl (n := 49) rfl ?_
  refine o_iloadN X0 hx (hb hby d_prog_15_method_16_code_49) (v := (o_m2 (o_x13 (o_m1 (o_x16 (o_h (o_h (o_h (3 : Int32) w0) w1) w2)))))) rfl (n := 50) rfl ?_
  refine o_bipush X0 hx (hb hby d_prog_15_method_16_code_50) (v := (16 : Int32)) rfl (n := 52) rfl ?_
  refine o_iushr X0 hx (hb hby d_prog_15_method_16_code_52) (v := ((o_m2 (o_x13 (o_m1 (o_x16 (o_h (o_h (o_h (3 : Int32) w0) w1) w2))))).toUInt32 >>> (16 : UInt32)).toInt32) (congrArg (fun q : UInt32 => ((o_m2 (o_x13 (o_m1 (o_x16 (o_h (o_h (o_h (3 : Int32) w0) w1) w2))))).toUInt32 >>> q).toInt32) (show ((16 : Int32) &&& 31).toUInt32 = 16 by decide)) (n := 53) rfl ?_
  refine o_ixor X0 hx (hb hby d_prog_15_method_16_code_53) (v := (o_x16 (o_m2 (o_x13 (o_m1 (o_x16 (o_h (o_h (o_h (3 : Int32) w0) w1) w2))))))) rfl (n := 54) rfl ?_
  exact o_ireturn X0 hx hret hlk (hb hby d_prog_15_method_16_code_54) (by decide) (by decide) e0 ⟨rfl, rfl, rfl⟩
theorem o_ef5 (m : MethodId) (a1 : Addr) : entryFrame m #[(.ref a1), (.int (4 : Int32))] 4 = mkF m 0 #[.val (.ref a1), .val (.int (4 : Int32)), .unset, .unset] [] := by first | (simp [entryFrame, mkF, argsToLocals, Value.category]; done) | rfl
set_option maxRecDepth 65536 in
set_option maxHeartbeats 40000000 in
theorem c_hash_4 (l : Launch) (Z : State) (a0 : Array Value) (hw : ∀ d ∈ tables_1, d.before a0 Z = true) (a1 : Addr) (k1 : ClassId) (w0 : Int32) (w1 : Int32) (w2 : Int32) (w3 : Int32) (w4 : Int32) (h0 : Heap) (pV_a1 : Arv Z h0 a1 k1 .int (5 : Int32) [(.int w0), (.int w1), (.int w2), (.int w3), (.int w4)] (.int (0 : Int32))) :
    Does l Z (⟨"acyclon/core/EdgeSets", "hash", "([II)I"⟩ : MethodName) prog_15_method_16_code 4 (some .int) [] ({ frames := 0, cells := 0, slots := 0, locals := 0 } : Room) #[(.ref a1), (.int (4 : Int32))] h0 (Pur h0 (.int (o_x16 (o_m2 (o_x13 (o_m1 (o_x16 (o_h (o_h (o_h (o_h (4 : Int32) w0) w1) w2) w3)))))))) := by
  refine Does.of (plainFor_of_name o_pn0) ?_
  intro p e s m below meth c T0 hx hby hml hown hnm hret hlk hZ X0 e0
  have hown : s.vm.findClass "acyclon/core/EdgeSets" = some m.cls := hown
  have hml : c.maxLocals = 4 := hml
  have hret : meth.sig.returnType = some .int := hret
  refine o_entry (o_ef5 m a1) ?_
  refine o_iloadN X0 hx (hb hby d_prog_15_method_16_code_0) (v := (4 : Int32)) rfl (n := 1) rfl ?_
  refine o_istoreN X0 hx (hb hby d_prog_15_method_16_code_1) (Ls' := #[.val (.ref a1), .val (.int (4 : Int32)), .val (.int (4 : Int32)), .unset]) rfl (n := 2) rfl ?_
  refine o_iconst X0 hx (hb hby d_prog_15_method_16_code_2) (v := (0 : Int32)) rfl (n := 3) rfl ?_
  refine o_istoreN X0 hx (hb hby d_prog_15_method_16_code_3) (Ls' := #[.val (.ref a1), .val (.int (4 : Int32)), .val (.int (4 : Int32)), .val (.int (0 : Int32))]) rfl (n := 4) rfl ?_
  refine o_iloadN X0 hx (hb hby d_prog_15_method_16_code_4) (v := (0 : Int32)) rfl (n := 5) rfl ?_
  refine o_iloadN X0 hx (hb hby d_prog_15_method_16_code_5) (v := (4 : Int32)) rfl (n := 6) rfl ?_
  refine o_icmpN X0 hx (hb hby d_prog_15_method_16_code_6) (XT.ii_ge_f (by decide)) (n := 9) rfl ?_
  refine o_iloadN X0 hx (hb hby d_prog_15_method_16_code_9) (v := (4 : Int32)) rfl (n := 10) rfl ?_
  refine o_ldc X0 hx hZ (v := (-1640531527 : Int32)) hown (hw _ (List.mem_of_getElem? (i := 15) rfl)) (hb hby d_prog_15_method_16_code_10) (n := 12) rfl ?_
  refine o_imul X0 hx (hb hby d_prog_15_method_16_code_12) (v := ((4 : Int32) * (-1640531527 : Int32))) rfl (n := 13) rfl ?_
  refine o_aloadN X0 hx (hb hby d_prog_15_method_16_code_13) (v := (.ref a1)) rfl rfl (n := 14) rfl ?_
  refine o_iloadN X0 hx (hb hby d_prog_15_method_16_code_14) (v := (0 : Int32)) rfl (n := 15) rfl ?_
  refine o_iaload X0 hx hZ e0 pV_a1 (0) (by decide) (by decide) (v := (.int w0)) rfl (hb hby d_prog_15_method_16_code_15) (n := 16) rfl ?_
  refine o_iadd X0 hx (hb hby d_prog_15_method_16_code_16) (v := (o_h (4 : Int32) w0)) rfl (n := 17) rfl ?_
  refine o_istoreN X0 hx (hb hby d_prog_15_method_16_code_17) (Ls' := #[.val (.ref a1), .val (.int (4 : Int32)), .val (.int (o_h (4 : Int32) w0)), .val (.int (0 : Int32))]) rfl (n := 18) rfl ?_
  refine o_iinc X0 hx (hb hby d_prog_15_method_16_code_18) (w := (1 : Int32)) rfl (by decide) (Ls' := #[.val (.ref a1), .val (.int (4 : Int32)), .val (.int (o_h (4 : Int32) w0)), .val (.int (1 : Int32))]) rfl (n := 21) rfl ?_
  refine o_goto X0 hx (hb hby d_prog_15_method_16_code_21) (by decide) (n := 4) (by decide) ?_
  refine o_iloadN X0 hx (hb hby d_prog_15_method_16_code_4) (v := (1 : Int32)) rfl (n := 5) rfl ?_
  refine o_iloadN X0 hx (hb hby d_prog_15_method_16_code_5) (v := (4 : Int32)) rfl (n := 6) rfl ?_
  refine o_icmpN X0 hx (hb hby d_prog_15_method_16_code_6) (XT.ii_ge_f (by decide)) (n := 9) rfl ?_
  refine o_iloadN X0 hx (hb hby d_prog_15_method_16_code_9) (v := (o_h (4 : Int32) w0)) rfl (n := 10) rfl ?_
  refine o_ldc X0 hx hZ (v := (-1640531527 : Int32)) hown (hw _ (List.mem_of_getElem? (i := 15) rfl)) (hb hby d_prog_15_method_16_code_10) (n := 12) rfl ?_
  refine o_imul X0 hx (hb hby d_prog_15_method_16_code_12) (v := ((o_h (4 : Int32) w0) * (-1640531527 : Int32))) rfl (n := 13) rfl ?_
  refine o_aloadN X0 hx (hb hby d_prog_15_method_16_code_13) (v := (.ref a1)) rfl rfl (n := 14) rfl ?_
  refine o_iloadN X0 hx (hb hby d_prog_15_method_16_code_14) (v := (1 : Int32)) rfl (n := 15) rfl ?_
  refine o_iaload X0 hx hZ e0 pV_a1 (1) (by decide) (by decide) (v := (.int w1)) rfl (hb hby d_prog_15_method_16_code_15) (n := 16) rfl ?_
  refine o_iadd X0 hx (hb hby d_prog_15_method_16_code_16) (v := (o_h (o_h (4 : Int32) w0) w1)) rfl (n := 17) rfl ?_
  refine o_istoreN X0 hx (hb hby d_prog_15_method_16_code_17) (Ls' := #[.val (.ref a1), .val (.int (4 : Int32)), .val (.int (o_h (o_h (4 : Int32) w0) w1)), .val (.int (1 : Int32))]) rfl (n := 18) rfl ?_
  refine o_iinc X0 hx (hb hby d_prog_15_method_16_code_18) (w := (2 : Int32)) rfl (by decide) (Ls' := #[.val (.ref a1), .val (.int (4 : Int32)), .val (.int (o_h (o_h (4 : Int32) w0) w1)), .val (.int (2 : Int32))]) rfl (n := 21) rfl ?_
  refine o_goto X0 hx (hb hby d_prog_15_method_16_code_21) (by decide) (n := 4) (by decide) ?_
  refine o_iloadN X0 hx (hb hby d_prog_15_method_16_code_4) (v := (2 : Int32)) rfl (n := 5) rfl ?_
  refine o_iloadN X0 hx (hb hby d_prog_15_method_16_code_5) (v := (4 : Int32)) rfl (n := 6) rfl ?_
  refine o_icmpN X0 hx (hb hby d_prog_15_method_16_code_6) (XT.ii_ge_f (by decide)) (n := 9) rfl ?_
  refine o_iloadN X0 hx (hb hby d_prog_15_method_16_code_9) (v := (o_h (o_h (4 : Int32) w0) w1)) rfl (n := 10) rfl ?_
  refine o_ldc X0 hx hZ (v := (-1640531527 : Int32)) hown (hw _ (List.mem_of_getElem? (i := 15) rfl)) (hb hby d_prog_15_method_16_code_10) (n := 12) rfl ?_
  refine o_imul X0 hx (hb hby d_prog_15_method_16_code_12) (v := ((o_h (o_h (4 : Int32) w0) w1) * (-1640531527 : Int32))) rfl (n := 13) rfl ?_
  refine o_aloadN X0 hx (hb hby d_prog_15_method_16_code_13) (v := (.ref a1)) rfl rfl (n := 14) rfl ?_
  refine o_iloadN X0 hx (hb hby d_prog_15_method_16_code_14) (v := (2 : Int32)) rfl (n := 15) rfl ?_
  refine o_iaload X0 hx hZ e0 pV_a1 (2) (by decide) (by decide) (v := (.int w2)) rfl (hb hby d_prog_15_method_16_code_15) (n := 16) rfl ?_
  refine o_iadd X0 hx (hb hby d_prog_15_method_16_code_16) (v := (o_h (o_h (o_h (4 : Int32) w0) w1) w2)) rfl (n := 17) rfl ?_
  refine o_istoreN X0 hx (hb hby d_prog_15_method_16_code_17) (Ls' := #[.val (.ref a1), .val (.int (4 : Int32)), .val (.int (o_h (o_h (o_h (4 : Int32) w0) w1) w2)), .val (.int (2 : Int32))]) rfl (n := 18) rfl ?_
  refine o_iinc X0 hx (hb hby d_prog_15_method_16_code_18) (w := (3 : Int32)) rfl (by decide) (Ls' := #[.val (.ref a1), .val (.int (4 : Int32)), .val (.int (o_h (o_h (o_h (4 : Int32) w0) w1) w2)), .val (.int (3 : Int32))]) rfl (n := 21) rfl ?_
  refine o_goto X0 hx (hb hby d_prog_15_method_16_code_21) (by decide) (n := 4) (by decide) ?_
  refine o_iloadN X0 hx (hb hby d_prog_15_method_16_code_4) (v := (3 : Int32)) rfl (n := 5) rfl ?_
  refine o_iloadN X0 hx (hb hby d_prog_15_method_16_code_5) (v := (4 : Int32)) rfl (n := 6) rfl ?_
  refine o_icmpN X0 hx (hb hby d_prog_15_method_16_code_6) (XT.ii_ge_f (by decide)) (n := 9) rfl ?_
  refine o_iloadN X0 hx (hb hby d_prog_15_method_16_code_9) (v := (o_h (o_h (o_h (4 : Int32) w0) w1) w2)) rfl (n := 10) rfl ?_
  refine o_ldc X0 hx hZ (v := (-1640531527 : Int32)) hown (hw _ (List.mem_of_getElem? (i := 15) rfl)) (hb hby d_prog_15_method_16_code_10) (n := 12) rfl ?_
  refine o_imul X0 hx (hb hby d_prog_15_method_16_code_12) (v := ((o_h (o_h (o_h (4 : Int32) w0) w1) w2) * (-1640531527 : Int32))) rfl (n := 13) rfl ?_
  refine o_aloadN X0 hx (hb hby d_prog_15_method_16_code_13) (v := (.ref a1)) rfl rfl (n := 14) rfl ?_
  refine o_iloadN X0 hx (hb hby d_prog_15_method_16_code_14) (v := (3 : Int32)) rfl (n := 15) rfl ?_
  refine o_iaload X0 hx hZ e0 pV_a1 (3) (by decide) (by decide) (v := (.int w3)) rfl (hb hby d_prog_15_method_16_code_15) (n := 16) rfl ?_
  refine o_iadd X0 hx (hb hby d_prog_15_method_16_code_16) (v := (o_h (o_h (o_h (o_h (4 : Int32) w0) w1) w2) w3)) rfl (n := 17) rfl ?_
  refine o_istoreN X0 hx (hb hby d_prog_15_method_16_code_17) (Ls' := #[.val (.ref a1), .val (.int (4 : Int32)), .val (.int (o_h (o_h (o_h (o_h (4 : Int32) w0) w1) w2) w3)), .val (.int (3 : Int32))]) rfl (n := 18) rfl ?_
  refine o_iinc X0 hx (hb hby d_prog_15_method_16_code_18) (w := (4 : Int32)) rfl (by decide) (Ls' := #[.val (.ref a1), .val (.int (4 : Int32)), .val (.int (o_h (o_h (o_h (o_h (4 : Int32) w0) w1) w2) w3)), .val (.int (4 : Int32))]) rfl (n := 21) rfl ?_
  refine o_goto X0 hx (hb hby d_prog_15_method_16_code_21) (by decide) (n := 4) (by decide) ?_
  refine o_iloadN X0 hx (hb hby d_prog_15_method_16_code_4) (v := (4 : Int32)) rfl (n := 5) rfl ?_
  refine o_iloadN X0 hx (hb hby d_prog_15_method_16_code_5) (v := (4 : Int32)) rfl (n := 6) rfl ?_
  refine o_icmpY X0 hx (hb hby d_prog_15_method_16_code_6) (XT.ii_ge_t (by decide)) (by decide) (n := 24) (by decide) ?_
  refine o_iloadN X0 hx (hb hby d_prog_15_method_16_code_24) (v := (o_h (o_h (o_h (o_h (4 : Int32) w0) w1) w2) w3)) rfl (n := 25) rfl ?_
  refine o_iloadN X0 hx (hb hby d_prog_15_method_16_code_25) (v := (o_h (o_h (o_h (o_h (4 : Int32) w0) w1) w2) w3)) rfl (n := 26) rfl ?_
  refine o_bipush X0 hx (hb hby d_prog_15_method_16_code_26) (v := (16 : Int32)) rfl (n := 28) rfl ?_
  refine o_iushr X0 hx (hb hby d_prog_15_method_16_code_28) (v := ((o_h (o_h (o_h (o_h (4 : Int32) w0) w1) w2) w3).toUInt32 >>> (16 : UInt32)).toInt32) (congrArg (fun q : UInt32 => ((o_h (o_h (o_h (o_h (4 : Int32) w0) w1) w2) w3).toUInt32 >>> q).toInt32) (show ((16 : Int32) &&& 31).toUInt32 = 16 by decide)) (n := 29) rfl ?_
  refine o_ixor X0 hx (hb hby d_prog_15_method_16_code_29) (v := (o_x16 (o_h (o_h (o_h (o_h (4 : Int32) w0) w1) w2) w3))) rfl (n := 30) rfl ?_
  refine o_istoreN X0 hx (hb hby d_prog_15_method_16_code_30) (Ls' := #[.val (.ref a1), .val (.int (4 : Int32)), .val (.int (o_x16 (o_h (o_h (o_h (o_h (4 : Int32) w0) w1) w2) w3))), .val (.int (4 : Int32))]) rfl (n := 31) rfl ?_
  refine o_iloadN X0 hx (hb hby d_prog_15_method_16_code_31) (v := (o_x16 (o_h (o_h (o_h (o_h (4 : Int32) w0) w1) w2) w3))) rfl (n := 32) rfl ?_
  refine o_ldc X0 hx hZ (v := (-2048144789 : Int32)) hown (hw _ (List.mem_of_getElem? (i := 6) rfl)) (hb hby d_prog_15_method_16_code_32) (n := 34) rfl ?_
  refine o_imul X0 hx (hb hby d_prog_15_method_16_code_34) (v := (o_m1 (o_x16 (o_h (o_h (o_h (o_h (4 : Int32) w0) w1) w2) w3)))) rfl (n := 35) rfl ?_
  refine o_istoreN X0 hx (hb hby d_prog_15_method_16_code_35) (Ls' := #[.val (.ref a1), .val (.int (4 : Int32)), .val (.int (o_m1 (o_x16 (o_h (o_h (o_h (o_h (4 : Int32) w0) w1) w2) w3)))), .val (.int (4 : Int32))]) rfl (n := 36) rfl ?_
  refine o_iloadN X0 hx (hb hby d_prog_15_method_16_code_36) (v := (o_m1 (o_x16 (o_h (o_h (o_h (o_h (4 : Int32) w0) w1) w2) w3)))) rfl (n := 37) rfl ?_
  refine o_iloadN X0 hx (hb hby d_prog_15_method_16_code_37) (v := (o_m1 (o_x16 (o_h (o_h (o_h (o_h (4 : Int32) w0) w1) w2) w3)))) rfl (n := 38) rfl ?_
  refine o_bipush X0 hx (hb hby d_prog_15_method_16_code_38) (v := (13 : Int32)) rfl (n := 40) rfl ?_
  refine o_iushr X0 hx (hb hby d_prog_15_method_16_code_40) (v := ((o_m1 (o_x16 (o_h (o_h (o_h (o_h (4 : Int32) w0) w1) w2) w3))).toUInt32 >>> (13 : UInt32)).toInt32) (congrArg (fun q : UInt32 => ((o_m1 (o_x16 (o_h (o_h (o_h (o_h (4 : Int32) w0) w1) w2) w3))).toUInt32 >>> q).toInt32) (show ((13 : Int32) &&& 31).toUInt32 = 13 by decide)) (n := 41) rfl ?_
  refine o_ixor X0 hx (hb hby d_prog_15_method_16_code_41) (v := (o_x13 (o_m1 (o_x16 (o_h (o_h (o_h (o_h (4 : Int32) w0) w1) w2) w3))))) rfl (n := 42) rfl ?_
  refine o_istoreN X0 hx (hb hby d_prog_15_method_16_code_42) (Ls' := #[.val (.ref a1), .val (.int (4 : Int32)), .val (.int (o_x13 (o_m1 (o_x16 (o_h (o_h (o_h (o_h (4 : Int32) w0) w1) w2) w3))))), .val (.int (4 : Int32))]) rfl (n := 43) rfl ?_
  refine o_iloadN X0 hx (hb hby d_prog_15_method_16_code_43) (v := (o_x13 (o_m1 (o_x16 (o_h (o_h (o_h (o_h (4 : Int32) w0) w1) w2) w3))))) rfl (n := 44) rfl ?_
  refine o_ldc X0 hx hZ (v := (-1028477387 : Int32)) hown (hw _ (List.mem_of_getElem? (i := 7) rfl)) (hb hby d_prog_15_method_16_code_44) (n := 46) rfl ?_
  refine o_imul X0 hx (hb hby d_prog_15_method_16_code_46) (v := (o_m2 (o_x13 (o_m1 (o_x16 (o_h (o_h (o_h (o_h (4 : Int32) w0) w1) w2) w3)))))) rfl (n := 47) rfl ?_
  refine o_istoreN X0 hx (hb hby d_prog_15_method_16_code_47) (Ls' := #[.val (.ref a1), .val (.int (4 : Int32)), .val (.int (o_m2 (o_x13 (o_m1 (o_x16 (o_h (o_h (o_h (o_h (4 : Int32) w0) w1) w2) w3)))))), .val (.int (4 : Int32))]) rfl (n := 48) rfl ?_
  refine o_iloadN X0 hx (hb hby d_prog_15_method_16_code_48) (v := (o_m2 (o_x13 (o_m1 (o_x16 (o_h (o_h (o_h (o_h (4 : Int32) w0) w1) w2) w3)))))) rfl (n := 49) rfl ?_
  refine o_iloadN X0 hx (hb hby d_prog_15_method_16_code_49) (v := (o_m2 (o_x13 (o_m1 (o_x16 (o_h (o_h (o_h (o_h (4 : Int32) w0) w1) w2) w3)))))) rfl (n := 50) rfl ?_
  refine o_bipush X0 hx (hb hby d_prog_15_method_16_code_50) (v := (16 : Int32)) rfl (n := 52) rfl ?_
  refine o_iushr X0 hx (hb hby d_prog_15_method_16_code_52) (v := ((o_m2 (o_x13 (o_m1 (o_x16 (o_h (o_h (o_h (o_h (4 : Int32) w0) w1) w2) w3))))).toUInt32 >>> (16 : UInt32)).toInt32) (congrArg (fun q : UInt32 => ((o_m2 (o_x13 (o_m1 (o_x16 (o_h (o_h (o_h (o_h (4 : Int32) w0) w1) w2) w3))))).toUInt32 >>> q).toInt32) (show ((16 : Int32) &&& 31).toUInt32 = 16 by decide)) (n := 53) rfl ?_
  refine o_ixor X0 hx (hb hby d_prog_15_method_16_code_53) (v := (o_x16 (o_m2 (o_x13 (o_m1 (o_x16 (o_h (o_h (o_h (o_h (4 : Int32) w0) w1) w2) w3))))))) rfl (n := 54) rfl ?_
  exact o_ireturn X0 hx hret hlk (hb hby d_prog_15_method_16_code_54) (by decide) (by decide) e0 ⟨rfl, rfl, rfl⟩
theorem d_method_3_code_0 : decode method_3_code 0 = .ok (.iload_n 0, 1) := by decide +kernel
theorem d_method_3_code_1 : decode method_3_code 1 = .ok (.iload_n 0, 1) := by decide +kernel
theorem d_method_3_code_2 : decode method_3_code 2 = .ok (.bipush 16, 2) := by decide +kernel
theorem d_method_3_code_4 : decode method_3_code 4 = .ok (.iushr, 1) := by decide +kernel
theorem d_method_3_code_5 : decode method_3_code 5 = .ok (.ixor, 1) := by decide +kernel
theorem d_method_3_code_6 : decode method_3_code 6 = .ok (.istore_n 0, 1) := by decide +kernel
theorem d_method_3_code_7 : decode method_3_code 7 = .ok (.iload_n 0, 1) := by decide +kernel
theorem d_method_3_code_8 : decode method_3_code 8 = .ok (.ldc 21, 2) := by decide +kernel
theorem d_method_3_code_10 : decode method_3_code 10 = .ok (.imul, 1) := by decide +kernel
theorem d_method_3_code_11 : decode method_3_code 11 = .ok (.istore_n 0, 1) := by decide +kernel
theorem d_method_3_code_12 : decode method_3_code 12 = .ok (.iload_n 0, 1) := by decide +kernel
theorem d_method_3_code_13 : decode method_3_code 13 = .ok (.iload_n 0, 1) := by decide +kernel
theorem d_method_3_code_14 : decode method_3_code 14 = .ok (.bipush 13, 2) := by decide +kernel
theorem d_method_3_code_16 : decode method_3_code 16 = .ok (.iushr, 1) := by decide +kernel
theorem d_method_3_code_17 : decode method_3_code 17 = .ok (.iload_n 0, 1) := by decide +kernel
theorem d_method_3_code_18 : decode method_3_code 18 = .ok (.bipush 26, 2) := by decide +kernel
theorem d_method_3_code_20 : decode method_3_code 20 = .ok (.iushr, 1) := by decide +kernel
theorem d_method_3_code_21 : decode method_3_code 21 = .ok (.ixor, 1) := by decide +kernel
theorem d_method_3_code_22 : decode method_3_code 22 = .ok (.ixor, 1) := by decide +kernel
theorem d_method_3_code_23 : decode method_3_code 23 = .ok (.istore_n 0, 1) := by decide +kernel
theorem d_method_3_code_24 : decode method_3_code 24 = .ok (.iload_n 0, 1) := by decide +kernel
theorem d_method_3_code_25 : decode method_3_code 25 = .ok (.ldc 22, 2) := by decide +kernel
theorem d_method_3_code_27 : decode method_3_code 27 = .ok (.imul, 1) := by decide +kernel
theorem d_method_3_code_28 : decode method_3_code 28 = .ok (.istore_n 0, 1) := by decide +kernel
theorem d_method_3_code_29 : decode method_3_code 29 = .ok (.iload_n 0, 1) := by decide +kernel
theorem d_method_3_code_30 : decode method_3_code 30 = .ok (.iload_n 0, 1) := by decide +kernel
theorem d_method_3_code_31 : decode method_3_code 31 = .ok (.bipush 16, 2) := by decide +kernel
theorem d_method_3_code_33 : decode method_3_code 33 = .ok (.iushr, 1) := by decide +kernel
theorem d_method_3_code_34 : decode method_3_code 34 = .ok (.ixor, 1) := by decide +kernel
theorem d_method_3_code_35 : decode method_3_code 35 = .ok (.istore_n 0, 1) := by decide +kernel
theorem d_method_3_code_36 : decode method_3_code 36 = .ok (.iload_n 0, 1) := by decide +kernel
theorem d_method_3_code_37 : decode method_3_code 37 = .ok (.ireturn, 1) := by decide +kernel
theorem o_ef6 (m : MethodId) (p0 : Int32) : entryFrame m #[(.int p0)] 1 = mkF m 0 #[.val (.int p0)] [] := by first | (simp [entryFrame, mkF, argsToLocals, Value.category]; done) | rfl
theorem o_pn1 : plainName "acyclon/core/EdgeSetsHashPinLaw" = true := by first | (simp [plainName, overriddenIn]; done) | decide +kernel
set_option maxRecDepth 65536 in
set_option maxHeartbeats 40000000 in
theorem c_unmix (l : Launch) (Z : State) (a0 : Array Value) (hw : ∀ d ∈ tables_1, d.before a0 Z = true) (p0 : Int32) (h0 : Heap) :
    Does l Z (⟨"acyclon/core/EdgeSetsHashPinLaw", "unmix", "(I)I"⟩ : MethodName) method_3_code 1 (some .int) [] ({ frames := 0, cells := 0, slots := 0, locals := 0 } : Room) #[(.int p0)] h0 (Pur h0 (.int (o_x16 (o_n2 (o_y13 (o_n1 (o_x16 p0))))))) := by
  refine Does.of (plainFor_of_name o_pn1) ?_
  intro p e s m below meth c T0 hx hby hml hown hnm hret hlk hZ X0 e0
  have hown : s.vm.findClass "acyclon/core/EdgeSetsHashPinLaw" = some m.cls := hown
  have hml : c.maxLocals = 1 := hml
  have hret : meth.sig.returnType = some .int := hret
  refine o_entry (o_ef6 m p0) ?_
  refine o_iloadN X0 hx (hb hby d_method_3_code_0) (v := p0) rfl (n := 1) rfl ?_
  refine o_iloadN X0 hx (hb hby d_method_3_code_1) (v := p0) rfl (n := 2) rfl ?_
  refine o_bipush X0 hx (hb hby d_method_3_code_2) (v := (16 : Int32)) rfl (n := 4) rfl ?_
  refine o_iushr X0 hx (hb hby d_method_3_code_4) (v := (p0.toUInt32 >>> (16 : UInt32)).toInt32) (congrArg (fun q : UInt32 => (p0.toUInt32 >>> q).toInt32) (show ((16 : Int32) &&& 31).toUInt32 = 16 by decide)) (n := 5) rfl ?_
  refine o_ixor X0 hx (hb hby d_method_3_code_5) (v := (o_x16 p0)) rfl (n := 6) rfl ?_
  refine o_istoreN X0 hx (hb hby d_method_3_code_6) (Ls' := #[.val (.int (o_x16 p0))]) rfl (n := 7) rfl ?_
  refine o_iloadN X0 hx (hb hby d_method_3_code_7) (v := (o_x16 p0)) rfl (n := 8) rfl ?_
  refine o_ldc X0 hx hZ (v := (2127672349 : Int32)) hown (hw _ (List.mem_of_getElem? (i := 13) rfl)) (hb hby d_method_3_code_8) (n := 10) rfl ?_
  refine o_imul X0 hx (hb hby d_method_3_code_10) (v := (o_n1 (o_x16 p0))) rfl (n := 11) rfl ?_
  refine o_istoreN X0 hx (hb hby d_method_3_code_11) (Ls' := #[.val (.int (o_n1 (o_x16 p0)))]) rfl (n := 12) rfl ?_
  refine o_iloadN X0 hx (hb hby d_method_3_code_12) (v := (o_n1 (o_x16 p0))) rfl (n := 13) rfl ?_
  refine o_iloadN X0 hx (hb hby d_method_3_code_13) (v := (o_n1 (o_x16 p0))) rfl (n := 14) rfl ?_
  refine o_bipush X0 hx (hb hby d_method_3_code_14) (v := (13 : Int32)) rfl (n := 16) rfl ?_
  refine o_iushr X0 hx (hb hby d_method_3_code_16) (v := ((o_n1 (o_x16 p0)).toUInt32 >>> (13 : UInt32)).toInt32) (congrArg (fun q : UInt32 => ((o_n1 (o_x16 p0)).toUInt32 >>> q).toInt32) (show ((13 : Int32) &&& 31).toUInt32 = 13 by decide)) (n := 17) rfl ?_
  refine o_iloadN X0 hx (hb hby d_method_3_code_17) (v := (o_n1 (o_x16 p0))) rfl (n := 18) rfl ?_
  refine o_bipush X0 hx (hb hby d_method_3_code_18) (v := (26 : Int32)) rfl (n := 20) rfl ?_
  refine o_iushr X0 hx (hb hby d_method_3_code_20) (v := ((o_n1 (o_x16 p0)).toUInt32 >>> (26 : UInt32)).toInt32) (congrArg (fun q : UInt32 => ((o_n1 (o_x16 p0)).toUInt32 >>> q).toInt32) (show ((26 : Int32) &&& 31).toUInt32 = 26 by decide)) (n := 21) rfl ?_
  refine o_ixor X0 hx (hb hby d_method_3_code_21) (v := (((o_n1 (o_x16 p0)).toUInt32 >>> (13 : UInt32)).toInt32 ^^^ ((o_n1 (o_x16 p0)).toUInt32 >>> (26 : UInt32)).toInt32)) rfl (n := 22) rfl ?_
  refine o_ixor X0 hx (hb hby d_method_3_code_22) (v := (o_y13 (o_n1 (o_x16 p0)))) rfl (n := 23) rfl ?_
  refine o_istoreN X0 hx (hb hby d_method_3_code_23) (Ls' := #[.val (.int (o_y13 (o_n1 (o_x16 p0))))]) rfl (n := 24) rfl ?_
  refine o_iloadN X0 hx (hb hby d_method_3_code_24) (v := (o_y13 (o_n1 (o_x16 p0)))) rfl (n := 25) rfl ?_
  refine o_ldc X0 hx hZ (v := (-1513385405 : Int32)) hown (hw _ (List.mem_of_getElem? (i := 14) rfl)) (hb hby d_method_3_code_25) (n := 27) rfl ?_
  refine o_imul X0 hx (hb hby d_method_3_code_27) (v := (o_n2 (o_y13 (o_n1 (o_x16 p0))))) rfl (n := 28) rfl ?_
  refine o_istoreN X0 hx (hb hby d_method_3_code_28) (Ls' := #[.val (.int (o_n2 (o_y13 (o_n1 (o_x16 p0)))))]) rfl (n := 29) rfl ?_
  refine o_iloadN X0 hx (hb hby d_method_3_code_29) (v := (o_n2 (o_y13 (o_n1 (o_x16 p0))))) rfl (n := 30) rfl ?_
  refine o_iloadN X0 hx (hb hby d_method_3_code_30) (v := (o_n2 (o_y13 (o_n1 (o_x16 p0))))) rfl (n := 31) rfl ?_
  refine o_bipush X0 hx (hb hby d_method_3_code_31) (v := (16 : Int32)) rfl (n := 33) rfl ?_
  refine o_iushr X0 hx (hb hby d_method_3_code_33) (v := ((o_n2 (o_y13 (o_n1 (o_x16 p0)))).toUInt32 >>> (16 : UInt32)).toInt32) (congrArg (fun q : UInt32 => ((o_n2 (o_y13 (o_n1 (o_x16 p0)))).toUInt32 >>> q).toInt32) (show ((16 : Int32) &&& 31).toUInt32 = 16 by decide)) (n := 34) rfl ?_
  refine o_ixor X0 hx (hb hby d_method_3_code_34) (v := (o_x16 (o_n2 (o_y13 (o_n1 (o_x16 p0)))))) rfl (n := 35) rfl ?_
  refine o_istoreN X0 hx (hb hby d_method_3_code_35) (Ls' := #[.val (.int (o_x16 (o_n2 (o_y13 (o_n1 (o_x16 p0))))))]) rfl (n := 36) rfl ?_
  refine o_iloadN X0 hx (hb hby d_method_3_code_36) (v := (o_x16 (o_n2 (o_y13 (o_n1 (o_x16 p0)))))) rfl (n := 37) rfl ?_
  exact o_ireturn X0 hx hret hlk (hb hby d_method_3_code_37) (by decide) (by decide) e0 ⟨rfl, rfl, rfl⟩
theorem o_pd0 : parseMethodDescriptor "([II)I" = some ⟨[(.array .int), .int], some .int⟩ := by decide +kernel
theorem o_pd1 : parseMethodDescriptor "(I)I" = some ⟨[.int], some .int⟩ := by decide +kernel
theorem o_ef7 (m : MethodId) (p0 : Int32) (p1 : Int32) (p2 : Int32) (p3 : Int32) (p4 : Int32) (p5 : Int32) : entryFrame m #[(.int p0), (.int p1), (.int p2), (.int p3), (.int p4), (.int p5)] maxLocals = mkF m 0 #[.val (.int p0), .val (.int p1), .val (.int p2), .val (.int p3), .val (.int p4), .val (.int p5), .unset, .unset, .unset, .unset, .unset, .unset, .unset, .unset] [] := by first | (simp [entryFrame, mkF, argsToLocals, Value.category, maxLocals]; done) | rfl
set_option maxRecDepth 65536 in
set_option maxHeartbeats 40000000 in
theorem o_law (l : Launch) (Z : State) (a0 : Array Value) (hw : ∀ d ∈ tables_1, d.before a0 Z = true) (p0 : Int32) (p1 : Int32) (p2 : Int32) (p3 : Int32) (p4 : Int32) (p5 : Int32) (h0 : Heap) (n0 : Nat) (Z0 : n0 ≤ h0.size) :
    Does l Z x code maxLocals ret tables_1 room_1 #[(.int p0), (.int p1), (.int p2), (.int p3), (.int p4), (.int p5)] h0 (fun v h L => v = some (.int 1) ∧ Fr n0 L) := by
  refine Does.of (plainFor_of_name o_pn1) ?_
  intro p e s m below meth c T0 hx hby hml hown hnm hret hlk hZ X0 e0
  have hown : s.vm.findClass "acyclon/core/EdgeSetsHashPinLaw" = some m.cls := hown
  have hml : c.maxLocals = 14 := hml
  have hret : meth.sig.returnType = some .boolean := hret
  refine o_entry (o_ef7 m p0 p1 p2 p3 p4 p5) ?_
  have N0 := Fr.nil n0
  rcases o_n5 p0 with q | q | q | q | q
  · refine o_iloadN X0 hx (hb hby at_0) (v := p0) rfl (n := 1) rfl ?_
    refine o_ldc X0 hx hZ (v := (2147483647 : Int32)) hown (hw _ (List.mem_of_getElem? (i := 0) rfl)) (hb hby at_1) (n := 3) rfl ?_
    refine o_iand X0 hx (hb hby at_3) (v := (p0 &&& (2147483647 : Int32))) rfl (n := 4) rfl ?_
    refine o_iconst X0 hx (hb hby at_4) (v := (5 : Int32)) rfl (n := 5) rfl ?_
    refine o_irem X0 hx (hb hby at_5) (by decide) (v := (0 : Int32)) q (n := 6) rfl ?_
    refine o_istore X0 hx (hb hby at_6) (Ls' := #[.val (.int p0), .val (.int p1), .val (.int p2), .val (.int p3), .val (.int p4), .val (.int p5), .val (.int (0 : Int32)), .unset, .unset, .unset, .unset, .unset, .unset, .unset]) rfl (n := 8) rfl ?_
    refine o_iconst X0 hx (hb hby at_8) (v := (5 : Int32)) rfl (n := 9) rfl ?_
    refine o_newarray X0 hx hZ (aty := .int) (hw _ (List.mem_of_getElem? (i := 1) rfl)) e0 (hb hby at_9) (by decide) 5 (by decide) (by decide) (by decide) (by decide) (n := 11) rfl ?_
    intro T1 h1 b1 k1 X1 e1 g1 E1 V1
    have gg1 : n0 ≤ b1 := Nat.le_trans Z0 (Nat.le_of_eq g1.symm)
    have zz1 : n0 ≤ h1.size := Nat.le_trans Z0 E1.1
    have f2 : Arv Z h1 b1 k1 .int (5 : Int32) [(.int (0 : Int32)), (.int (0 : Int32)), (.int (0 : Int32)), (.int (0 : Int32)), (.int (0 : Int32))] (.int (0 : Int32)) := V1.pad (pad_rep [] (.int (0 : Int32)) 5)
    refine o_dup X1 hx (hb hby at_11) rfl (n := 12) rfl ?_
    refine o_iconst X1 hx (hb hby at_12) (v := (0 : Int32)) rfl (n := 13) rfl ?_
    refine o_iloadN X1 hx (hb hby at_13) (v := p1) rfl (n := 14) rfl ?_
    refine o_iastore X1 hx hZ e1 f2 (0) (by decide) (by decide) (Nat.le_of_ble_eq_true rfl) (w := (.int p1)) rfl (vs' := [(.int p1), (.int (0 : Int32)), (.int (0 : Int32)), (.int (0 : Int32)), (.int (0 : Int32))]) rfl (hb hby at_14) (n := 15) rfl ?_
    intro T3 h3 X3 e3 W3 V3
    have zz3 : n0 ≤ h3.size := Nat.le_trans zz1 (Nat.le_of_eq W3.size.symm)
    have N4 := Fr.snoc X3 N0 gg1
    refine o_dup X3 hx (hb hby at_15) rfl (n := 16) rfl ?_
    refine o_iconst X3 hx (hb hby at_16) (v := (1 : Int32)) rfl (n := 17) rfl ?_
    refine o_iloadN X3 hx (hb hby at_17) (v := p2) rfl (n := 18) rfl ?_
    refine o_iastore X3 hx hZ e3 V3 (1) (by decide) (by decide) (Nat.le_of_ble_eq_true rfl) (w := (.int p2)) rfl (vs' := [(.int p1), (.int p2), (.int (0 : Int32)), (.int (0 : Int32)), (.int (0 : Int32))]) rfl (hb hby at_18) (n := 19) rfl ?_
    intro T5 h5 X5 e5 W5 V5
    have zz5 : n0 ≤ h5.size := Nat.le_trans zz3 (Nat.le_of_eq W5.size.symm)
    have N6 := Fr.snoc X5 N4 gg1
    refine o_dup X5 hx (hb hby at_19) rfl (n := 20) rfl ?_
    refine o_iconst X5 hx (hb hby at_20) (v := (2 : Int32)) rfl (n := 21) rfl ?_
    refine o_iloadN X5 hx (hb hby at_21) (v := p3) rfl (n := 22) rfl ?_
    refine o_iastore X5 hx hZ e5 V5 (2) (by decide) (by decide) (Nat.le_of_ble_eq_true rfl) (w := (.int p3)) rfl (vs' := [(.int p1), (.int p2), (.int p3), (.int (0 : Int32)), (.int (0 : Int32))]) rfl (hb hby at_22) (n := 23) rfl ?_
    intro T7 h7 X7 e7 W7 V7
    have zz7 : n0 ≤ h7.size := Nat.le_trans zz5 (Nat.le_of_eq W7.size.symm)
    have N8 := Fr.snoc X7 N6 gg1
    refine o_dup X7 hx (hb hby at_23) rfl (n := 24) rfl ?_
    refine o_iconst X7 hx (hb hby at_24) (v := (3 : Int32)) rfl (n := 25) rfl ?_
    refine o_iload X7 hx (hb hby at_25) (v := p4) rfl (n := 27) rfl ?_
    refine o_iastore X7 hx hZ e7 V7 (3) (by decide) (by decide) (Nat.le_of_ble_eq_true rfl) (w := (.int p4)) rfl (vs' := [(.int p1), (.int p2), (.int p3), (.int p4), (.int (0 : Int32))]) rfl (hb hby at_27) (n := 28) rfl ?_
    intro T9 h9 X9 e9 W9 V9
    have zz9 : n0 ≤ h9.size := Nat.le_trans zz7 (Nat.le_of_eq W9.size.symm)
    have N10 := Fr.snoc X9 N8 gg1
    refine o_dup X9 hx (hb hby at_28) rfl (n := 29) rfl ?_
    refine o_iconst X9 hx (hb hby at_29) (v := (4 : Int32)) rfl (n := 30) rfl ?_
    refine o_iload X9 hx (hb hby at_30) (v := p5) rfl (n := 32) rfl ?_
    refine o_iastore X9 hx hZ e9 V9 (4) (by decide) (by decide) (Nat.le_of_ble_eq_true rfl) (w := (.int p5)) rfl (vs' := [(.int p1), (.int p2), (.int p3), (.int p4), (.int p5)]) rfl (hb hby at_32) (n := 33) rfl ?_
    intro T11 h11 X11 e11 W11 V11
    have zz11 : n0 ≤ h11.size := Nat.le_trans zz9 (Nat.le_of_eq W11.size.symm)
    have N12 := Fr.snoc X11 N10 gg1
    refine o_astore X11 hx (hb hby at_33) rfl (Ls' := #[.val (.int p0), .val (.int p1), .val (.int p2), .val (.int p3), .val (.int p4), .val (.int p5), .val (.int (0 : Int32)), .val (.ref b1), .unset, .unset, .unset, .unset, .unset, .unset]) rfl (n := 35) rfl ?_
    refine o_aload X11 hx (hb hby at_35) (v := (.ref b1)) rfl rfl (n := 37) rfl ?_
    refine o_iload X11 hx (hb hby at_37) (v := (0 : Int32)) rfl (n := 39) rfl ?_
    refine o_callS X11 hx hZ hown (hw _ (List.mem_of_getElem? (i := 2) rfl)) (hw _ (List.mem_of_getElem? (i := 3) rfl)) (hw _ (List.mem_of_getElem? (i := 4) rfl)) (hw _ (List.mem_of_getElem? (i := 5) rfl)) (by decide) e11 (argsL := [(.ref b1), (.int (0 : Int32))]) (rest := []) (c_hash_0 l Z a0 hw b1 k1 p1 p2 p3 p4 p5 h11 V11) 0 (by decide) (by decide) (by decide) (by decide) (by rw [hml]; rfl) (lenOf o_pd0 rfl) rfl (Nat.le_of_eq rfl) (hb hby at_39) (n := 42) rfl ?_
    intro v13 T13 L13 X13 q13
    obtain ⟨rfl, e13, rfl⟩ := q13
    have N14 := Fr.app N12 (Fr.nil n0)
    show Goes p e below s _ _ _ (T13.setTop (mkF m 42 #[.val (.int p0), .val (.int p1), .val (.int p2), .val (.int p3), .val (.int p4), .val (.int p5), .val (.int (0 : Int32)), .val (.ref b1), .unset, .unset, .unset, .unset, .unset, .unset] [(.int (o_x16 (o_m2 (o_x13 (o_m1 (o_x16 (0 : Int32)))))))]))
    refine o_istore X13 hx (hb hby at_42) (Ls' := #[.val (.int p0), .val (.int p1), .val (.int p2), .val (.int p3), .val (.int p4), .val (.int p5), .val (.int (0 : Int32)), .val (.ref b1), .val (.int (o_x16 (o_m2 (o_x13 (o_m1 (o_x16 (0 : Int32))))))), .unset, .unset, .unset, .unset, .unset]) rfl (n := 44) rfl ?_
    refine o_ldc X13 hx hZ (v := (-1640531527 : Int32)) hown (hw _ (List.mem_of_getElem? (i := 8) rfl)) (hb hby at_44) (n := 46) rfl ?_
    refine o_istore X13 hx (hb hby at_46) (Ls' := #[.val (.int p0), .val (.int p1), .val (.int p2), .val (.int p3), .val (.int p4), .val (.int p5), .val (.int (0 : Int32)), .val (.ref b1), .val (.int (o_x16 (o_m2 (o_x13 (o_m1 (o_x16 (0 : Int32))))))), .val (.int (-1640531527 : Int32)), .unset, .unset, .unset, .unset]) rfl (n := 48) rfl ?_
    refine o_iload X13 hx (hb hby at_48) (v := (-1640531527 : Int32)) rfl (n := 50) rfl ?_
    refine o_iload X13 hx (hb hby at_50) (v := (-1640531527 : Int32)) rfl (n := 52) rfl ?_
    refine o_imul X13 hx (hb hby at_52) (v := (-480352335 : Int32)) (by decide) (n := 53) rfl ?_
    refine o_istore X13 hx (hb hby at_53) (Ls' := #[.val (.int p0), .val (.int p1), .val (.int p2), .val (.int p3), .val (.int p4), .val (.int p5), .val (.int (0 : Int32)), .val (.ref b1), .val (.int (o_x16 (o_m2 (o_x13 (o_m1 (o_x16 (0 : Int32))))))), .val (.int (-1640531527 : Int32)), .val (.int (-480352335 : Int32)), .unset, .unset, .unset]) rfl (n := 55) rfl ?_
    refine o_iload X13 hx (hb hby at_55) (v := (-480352335 : Int32)) rfl (n := 57) rfl ?_
    refine o_iload X13 hx (hb hby at_57) (v := (-1640531527 : Int32)) rfl (n := 59) rfl ?_
    refine o_imul X13 hx (hb hby at_59) (v := (1933744105 : Int32)) (by decide) (n := 60) rfl ?_
    refine o_istore X13 hx (hb hby at_60) (Ls' := #[.val (.int p0), .val (.int p1), .val (.int p2), .val (.int p3), .val (.int p4), .val (.int p5), .val (.int (0 : Int32)), .val (.ref b1), .val (.int (o_x16 (o_m2 (o_x13 (o_m1 (o_x16 (0 : Int32))))))), .val (.int (-1640531527 : Int32)), .val (.int (-480352335 : Int32)), .val (.int (1933744105 : Int32)), .unset, .unset]) rfl (n := 62) rfl ?_
    refine o_iload X13 hx (hb hby at_62) (v := (1933744105 : Int32)) rfl (n := 64) rfl ?_
    refine o_iload X13 hx (hb hby at_64) (v := (-1640531527 : Int32)) rfl (n := 66) rfl ?_
    refine o_imul X13 hx (hb hby at_66) (v := (905701473 : Int32)) (by decide) (n := 67) rfl ?_
    refine o_istore X13 hx (hb hby at_67) (Ls' := #[.val (.int p0), .val (.int p1), .val (.int p2), .val (.int p3), .val (.int p4), .val (.int p5), .val (.int (0 : Int32)), .val (.ref b1), .val (.int (o_x16 (o_m2 (o_x13 (o_m1 (o_x16 (0 : Int32))))))), .val (.int (-1640531527 : Int32)), .val (.int (-480352335 : Int32)), .val (.int (1933744105 : Int32)), .val (.int (905701473 : Int32)), .unset]) rfl (n := 69) rfl ?_
    refine o_iload X13 hx (hb hby at_69) (v := (0 : Int32)) rfl (n := 71) rfl ?_
    refine o_ifN X13 hx (hb hby at_71) (XT.i0_ne_f (by decide)) (n := 74) rfl ?_
    refine o_iconst X13 hx (hb hby at_74) (v := (0 : Int32)) rfl (n := 75) rfl ?_
    refine o_istore X13 hx (hb hby at_75) (Ls' := #[.val (.int p0), .val (.int p1), .val (.int p2), .val (.int p3), .val (.int p4), .val (.int p5), .val (.int (0 : Int32)), .val (.ref b1), .val (.int (o_x16 (o_m2 (o_x13 (o_m1 (o_x16 (0 : Int32))))))), .val (.int (-1640531527 : Int32)), .val (.int (-480352335 : Int32)), .val (.int (1933744105 : Int32)), .val (.int (905701473 : Int32)), .val (.int (0 : Int32))]) rfl (n := 77) rfl ?_
    refine o_goto X13 hx (hb hby at_77) (by decide) (n := 168) (by decide) ?_
    refine o_iload X13 hx (hb hby at_168) (v := (o_x16 (o_m2 (o_x13 (o_m1 (o_x16 (0 : Int32))))))) rfl (n := 170) rfl ?_
    refine o_callS X13 hx hZ hown (hw _ (List.mem_of_getElem? (i := 9) rfl)) (hw _ (List.mem_of_getElem? (i := 10) rfl)) (hw _ (List.mem_of_getElem? (i := 11) rfl)) (hw _ (List.mem_of_getElem? (i := 12) rfl)) (by decide) e13 (argsL := [(.int (o_x16 (o_m2 (o_x13 (o_m1 (o_x16 (0 : Int32)))))))]) (rest := []) (c_unmix l Z a0 hw (o_x16 (o_m2 (o_x13 (o_m1 (o_x16 (0 : Int32)))))) h11) 0 (by decide) (by decide) (by decide) (by decide) (by rw [hml]; rfl) (lenOf o_pd1 rfl) rfl (Nat.le_of_eq rfl) (hb hby at_170) (n := 173) rfl ?_
    intro v15 T15 L15 X15 q15
    obtain ⟨rfl, e15, rfl⟩ := q15
    have N16 := Fr.app N14 (Fr.nil n0)
    show Goes p e below s _ _ _ (T15.setTop (mkF m 173 #[.val (.int p0), .val (.int p1), .val (.int p2), .val (.int p3), .val (.int p4), .val (.int p5), .val (.int (0 : Int32)), .val (.ref b1), .val (.int (o_x16 (o_m2 (o_x13 (o_m1 (o_x16 (0 : Int32))))))), .val (.int (-1640531527 : Int32)), .val (.int (-480352335 : Int32)), .val (.int (1933744105 : Int32)), .val (.int (905701473 : Int32)), .val (.int (0 : Int32))] [(.int (o_x16 (o_n2 (o_y13 (o_n1 (o_x16 (o_x16 (o_m2 (o_x13 (o_m1 (o_x16 (0 : Int32))))))))))))]))
    refine o_iload X15 hx (hb hby at_173) (v := (0 : Int32)) rfl (n := 175) rfl ?_
    have hring : (0 : Int32) = (0 : Int32) := rfl
    refine o_icmpN X15 hx (hb hby at_175) (XT.ii_ne_f ((o_inv _).trans hring)) (n := 178) rfl ?_
    refine o_iconst X15 hx (hb hby at_178) (v := (1 : Int32)) rfl (n := 179) rfl ?_
    refine o_goto X15 hx (hb hby at_179) (by decide) (n := 183) (by decide) ?_
    exact o_nreturn X15 hx hret hlk (t := .boolean) (by simp) (hb hby at_183) (by decide) (by decide) e15 ⟨rfl, N16⟩
  · refine o_iloadN X0 hx (hb hby at_0) (v := p0) rfl (n := 1) rfl ?_
    refine o_ldc X0 hx hZ (v := (2147483647 : Int32)) hown (hw _ (List.mem_of_getElem? (i := 0) rfl)) (hb hby at_1) (n := 3) rfl ?_
    refine o_iand X0 hx (hb hby at_3) (v := (p0 &&& (2147483647 : Int32))) rfl (n := 4) rfl ?_
    refine o_iconst X0 hx (hb hby at_4) (v := (5 : Int32)) rfl (n := 5) rfl ?_
    refine o_irem X0 hx (hb hby at_5) (by decide) (v := (1 : Int32)) q (n := 6) rfl ?_
    refine o_istore X0 hx (hb hby at_6) (Ls' := #[.val (.int p0), .val (.int p1), .val (.int p2), .val (.int p3), .val (.int p4), .val (.int p5), .val (.int (1 : Int32)), .unset, .unset, .unset, .unset, .unset, .unset, .unset]) rfl (n := 8) rfl ?_
    refine o_iconst X0 hx (hb hby at_8) (v := (5 : Int32)) rfl (n := 9) rfl ?_
    refine o_newarray X0 hx hZ (aty := .int) (hw _ (List.mem_of_getElem? (i := 1) rfl)) e0 (hb hby at_9) (by decide) 5 (by decide) (by decide) (by decide) (by decide) (n := 11) rfl ?_
    intro T17 h17 b17 k17 X17 e17 g17 E17 V17
    have gg17 : n0 ≤ b17 := Nat.le_trans Z0 (Nat.le_of_eq g17.symm)
    have zz17 : n0 ≤ h17.size := Nat.le_trans Z0 E17.1
    have f18 : Arv Z h17 b17 k17 .int (5 : Int32) [(.int (0 : Int32)), (.int (0 : Int32)), (.int (0 : Int32)), (.int (0 : Int32)), (.int (0 : Int32))] (.int (0 : Int32)) := V17.pad (pad_rep [] (.int (0 : Int32)) 5)
    refine o_dup X17 hx (hb hby at_11) rfl (n := 12) rfl ?_
    refine o_iconst X17 hx (hb hby at_12) (v := (0 : Int32)) rfl (n := 13) rfl ?_
    refine o_iloadN X17 hx (hb hby at_13) (v := p1) rfl (n := 14) rfl ?_
    refine o_iastore X17 hx hZ e17 f18 (0) (by decide) (by decide) (Nat.le_of_ble_eq_true rfl) (w := (.int p1)) rfl (vs' := [(.int p1), (.int (0 : Int32)), (.int (0 : Int32)), (.int (0 : Int32)), (.int (0 : Int32))]) rfl (hb hby at_14) (n := 15) rfl ?_
    intro T19 h19 X19 e19 W19 V19
    have zz19 : n0 ≤ h19.size := Nat.le_trans zz17 (Nat.le_of_eq W19.size.symm)
    have N20 := Fr.snoc X19 N0 gg17
    refine o_dup X19 hx (hb hby at_15) rfl (n := 16) rfl ?_
    refine o_iconst X19 hx (hb hby at_16) (v := (1 : Int32)) rfl (n := 17) rfl ?_
    refine o_iloadN X19 hx (hb hby at_17) (v := p2) rfl (n := 18) rfl ?_
    refine o_iastore X19 hx hZ e19 V19 (1) (by decide) (by decide) (Nat.le_of_ble_eq_true rfl) (w := (.int p2)) rfl (vs' := [(.int p1), (.int p2), (.int (0 : Int32)), (.int (0 : Int32)), (.int (0 : Int32))]) rfl (hb hby at_18) (n := 19) rfl ?_
    intro T21 h21 X21 e21 W21 V21
    have zz21 : n0 ≤ h21.size := Nat.le_trans zz19 (Nat.le_of_eq W21.size.symm)
    have N22 := Fr.snoc X21 N20 gg17
    refine o_dup X21 hx (hb hby at_19) rfl (n := 20) rfl ?_
    refine o_iconst X21 hx (hb hby at_20) (v := (2 : Int32)) rfl (n := 21) rfl ?_
    refine o_iloadN X21 hx (hb hby at_21) (v := p3) rfl (n := 22) rfl ?_
    refine o_iastore X21 hx hZ e21 V21 (2) (by decide) (by decide) (Nat.le_of_ble_eq_true rfl) (w := (.int p3)) rfl (vs' := [(.int p1), (.int p2), (.int p3), (.int (0 : Int32)), (.int (0 : Int32))]) rfl (hb hby at_22) (n := 23) rfl ?_
    intro T23 h23 X23 e23 W23 V23
    have zz23 : n0 ≤ h23.size := Nat.le_trans zz21 (Nat.le_of_eq W23.size.symm)
    have N24 := Fr.snoc X23 N22 gg17
    refine o_dup X23 hx (hb hby at_23) rfl (n := 24) rfl ?_
    refine o_iconst X23 hx (hb hby at_24) (v := (3 : Int32)) rfl (n := 25) rfl ?_
    refine o_iload X23 hx (hb hby at_25) (v := p4) rfl (n := 27) rfl ?_
    refine o_iastore X23 hx hZ e23 V23 (3) (by decide) (by decide) (Nat.le_of_ble_eq_true rfl) (w := (.int p4)) rfl (vs' := [(.int p1), (.int p2), (.int p3), (.int p4), (.int (0 : Int32))]) rfl (hb hby at_27) (n := 28) rfl ?_
    intro T25 h25 X25 e25 W25 V25
    have zz25 : n0 ≤ h25.size := Nat.le_trans zz23 (Nat.le_of_eq W25.size.symm)
    have N26 := Fr.snoc X25 N24 gg17
    refine o_dup X25 hx (hb hby at_28) rfl (n := 29) rfl ?_
    refine o_iconst X25 hx (hb hby at_29) (v := (4 : Int32)) rfl (n := 30) rfl ?_
    refine o_iload X25 hx (hb hby at_30) (v := p5) rfl (n := 32) rfl ?_
    refine o_iastore X25 hx hZ e25 V25 (4) (by decide) (by decide) (Nat.le_of_ble_eq_true rfl) (w := (.int p5)) rfl (vs' := [(.int p1), (.int p2), (.int p3), (.int p4), (.int p5)]) rfl (hb hby at_32) (n := 33) rfl ?_
    intro T27 h27 X27 e27 W27 V27
    have zz27 : n0 ≤ h27.size := Nat.le_trans zz25 (Nat.le_of_eq W27.size.symm)
    have N28 := Fr.snoc X27 N26 gg17
    refine o_astore X27 hx (hb hby at_33) rfl (Ls' := #[.val (.int p0), .val (.int p1), .val (.int p2), .val (.int p3), .val (.int p4), .val (.int p5), .val (.int (1 : Int32)), .val (.ref b17), .unset, .unset, .unset, .unset, .unset, .unset]) rfl (n := 35) rfl ?_
    refine o_aload X27 hx (hb hby at_35) (v := (.ref b17)) rfl rfl (n := 37) rfl ?_
    refine o_iload X27 hx (hb hby at_37) (v := (1 : Int32)) rfl (n := 39) rfl ?_
    refine o_callS X27 hx hZ hown (hw _ (List.mem_of_getElem? (i := 2) rfl)) (hw _ (List.mem_of_getElem? (i := 3) rfl)) (hw _ (List.mem_of_getElem? (i := 4) rfl)) (hw _ (List.mem_of_getElem? (i := 5) rfl)) (by decide) e27 (argsL := [(.ref b17), (.int (1 : Int32))]) (rest := []) (c_hash_1 l Z a0 hw b17 k17 p1 p2 p3 p4 p5 h27 V27) 0 (by decide) (by decide) (by decide) (by decide) (by rw [hml]; rfl) (lenOf o_pd0 rfl) rfl (Nat.le_of_eq rfl) (hb hby at_39) (n := 42) rfl ?_
    intro v29 T29 L29 X29 q29
    obtain ⟨rfl, e29, rfl⟩ := q29
    have N30 := Fr.app N28 (Fr.nil n0)
    show Goes p e below s _ _ _ (T29.setTop (mkF m 42 #[.val (.int p0), .val (.int p1), .val (.int p2), .val (.int p3), .val (.int p4), .val (.int p5), .val (.int (1 : Int32)), .val (.ref b17), .unset, .unset, .unset, .unset, .unset, .unset] [(.int (o_x16 (o_m2 (o_x13 (o_m1 (o_x16 (o_h (1 : Int32) p1)))))))]))
    refine o_istore X29 hx (hb hby at_42) (Ls' := #[.val (.int p0), .val (.int p1), .val (.int p2), .val (.int p3), .val (.int p4), .val (.int p5), .val (.int (1 : Int32)), .val (.ref b17), .val (.int (o_x16 (o_m2 (o_x13 (o_m1 (o_x16 (o_h (1 : Int32) p1))))))), .unset, .unset, .unset, .unset, .unset]) rfl (n := 44) rfl ?_
    refine o_ldc X29 hx hZ (v := (-1640531527 : Int32)) hown (hw _ (List.mem_of_getElem? (i := 8) rfl)) (hb hby at_44) (n := 46) rfl ?_
    refine o_istore X29 hx (hb hby at_46) (Ls' := #[.val (.int p0), .val (.int p1), .val (.int p2), .val (.int p3), .val (.int p4), .val (.int p5), .val (.int (1 : Int32)), .val (.ref b17), .val (.int (o_x16 (o_m2 (o_x13 (o_m1 (o_x16 (o_h (1 : Int32) p1))))))), .val (.int (-1640531527 : Int32)), .unset, .unset, .unset, .unset]) rfl (n := 48) rfl ?_
    refine o_iload X29 hx (hb hby at_48) (v := (-1640531527 : Int32)) rfl (n := 50) rfl ?_
    refine o_iload X29 hx (hb hby at_50) (v := (-1640531527 : Int32)) rfl (n := 52) rfl ?_
    refine o_imul X29 hx (hb hby at_52) (v := (-480352335 : Int32)) (by decide) (n := 53) rfl ?_
    refine o_istore X29 hx (hb hby at_53) (Ls' := #[.val (.int p0), .val (.int p1), .val (.int p2), .val (.int p3), .val (.int p4), .val (.int p5), .val (.int (1 : Int32)), .val (.ref b17), .val (.int (o_x16 (o_m2 (o_x13 (o_m1 (o_x16 (o_h (1 : Int32) p1))))))), .val (.int (-1640531527 : Int32)), .val (.int (-480352335 : Int32)), .unset, .unset, .unset]) rfl (n := 55) rfl ?_
    refine o_iload X29 hx (hb hby at_55) (v := (-480352335 : Int32)) rfl (n := 57) rfl ?_
    refine o_iload X29 hx (hb hby at_57) (v := (-1640531527 : Int32)) rfl (n := 59) rfl ?_
    refine o_imul X29 hx (hb hby at_59) (v := (1933744105 : Int32)) (by decide) (n := 60) rfl ?_
    refine o_istore X29 hx (hb hby at_60) (Ls' := #[.val (.int p0), .val (.int p1), .val (.int p2), .val (.int p3), .val (.int p4), .val (.int p5), .val (.int (1 : Int32)), .val (.ref b17), .val (.int (o_x16 (o_m2 (o_x13 (o_m1 (o_x16 (o_h (1 : Int32) p1))))))), .val (.int (-1640531527 : Int32)), .val (.int (-480352335 : Int32)), .val (.int (1933744105 : Int32)), .unset, .unset]) rfl (n := 62) rfl ?_
    refine o_iload X29 hx (hb hby at_62) (v := (1933744105 : Int32)) rfl (n := 64) rfl ?_
    refine o_iload X29 hx (hb hby at_64) (v := (-1640531527 : Int32)) rfl (n := 66) rfl ?_
    refine o_imul X29 hx (hb hby at_66) (v := (905701473 : Int32)) (by decide) (n := 67) rfl ?_
    refine o_istore X29 hx (hb hby at_67) (Ls' := #[.val (.int p0), .val (.int p1), .val (.int p2), .val (.int p3), .val (.int p4), .val (.int p5), .val (.int (1 : Int32)), .val (.ref b17), .val (.int (o_x16 (o_m2 (o_x13 (o_m1 (o_x16 (o_h (1 : Int32) p1))))))), .val (.int (-1640531527 : Int32)), .val (.int (-480352335 : Int32)), .val (.int (1933744105 : Int32)), .val (.int (905701473 : Int32)), .unset]) rfl (n := 69) rfl ?_
    refine o_iload X29 hx (hb hby at_69) (v := (1 : Int32)) rfl (n := 71) rfl ?_
    refine o_ifY X29 hx (hb hby at_71) (XT.i0_ne_t (by decide)) (by decide) (n := 80) (by decide) ?_
    refine o_iload X29 hx (hb hby at_80) (v := (1 : Int32)) rfl (n := 82) rfl ?_
    refine o_iconst X29 hx (hb hby at_82) (v := (1 : Int32)) rfl (n := 83) rfl ?_
    refine o_icmpN X29 hx (hb hby at_83) (XT.ii_ne_f (by decide)) (n := 86) rfl ?_
    refine o_iload X29 hx (hb hby at_86) (v := (-1640531527 : Int32)) rfl (n := 88) rfl ?_
    refine o_iloadN X29 hx (hb hby at_88) (v := p1) rfl (n := 89) rfl ?_
    refine o_iadd X29 hx (hb hby at_89) (v := ((-1640531527 : Int32) + p1)) rfl (n := 90) rfl ?_
    refine o_istore X29 hx (hb hby at_90) (Ls' := #[.val (.int p0), .val (.int p1), .val (.int p2), .val (.int p3), .val (.int p4), .val (.int p5), .val (.int (1 : Int32)), .val (.ref b17), .val (.int (o_x16 (o_m2 (o_x13 (o_m1 (o_x16 (o_h (1 : Int32) p1))))))), .val (.int (-1640531527 : Int32)), .val (.int (-480352335 : Int32)), .val (.int (1933744105 : Int32)), .val (.int (905701473 : Int32)), .val (.int ((-1640531527 : Int32) + p1))]) rfl (n := 92) rfl ?_
    refine o_goto X29 hx (hb hby at_92) (by decide) (n := 168) (by decide) ?_
    refine o_iload X29 hx (hb hby at_168) (v := (o_x16 (o_m2 (o_x13 (o_m1 (o_x16 (o_h (1 : Int32) p1))))))) rfl (n := 170) rfl ?_
    refine o_callS X29 hx hZ hown (hw _ (List.mem_of_getElem? (i := 9) rfl)) (hw _ (List.mem_of_getElem? (i := 10) rfl)) (hw _ (List.mem_of_getElem? (i := 11) rfl)) (hw _ (List.mem_of_getElem? (i := 12) rfl)) (by decide) e29 (argsL := [(.int (o_x16 (o_m2 (o_x13 (o_m1 (o_x16 (o_h (1 : Int32) p1)))))))]) (rest := []) (c_unmix l Z a0 hw (o_x16 (o_m2 (o_x13 (o_m1 (o_x16 (o_h (1 : Int32) p1)))))) h27) 0 (by decide) (by decide) (by decide) (by decide) (by rw [hml]; rfl) (lenOf o_pd1 rfl) rfl (Nat.le_of_eq rfl) (hb hby at_170) (n := 173) rfl ?_
    intro v31 T31 L31 X31 q31
    obtain ⟨rfl, e31, rfl⟩ := q31
    have N32 := Fr.app N30 (Fr.nil n0)
    show Goes p e below s _ _ _ (T31.setTop (mkF m 173 #[.val (.int p0), .val (.int p1), .val (.int p2), .val (.int p3), .val (.int p4), .val (.int p5), .val (.int (1 : Int32)), .val (.ref b17), .val (.int (o_x16 (o_m2 (o_x13 (o_m1 (o_x16 (o_h (1 : Int32) p1))))))), .val (.int (-1640531527 : Int32)), .val (.int (-480352335 : Int32)), .val (.int (1933744105 : Int32)), .val (.int (905701473 : Int32)), .val (.int ((-1640531527 : Int32) + p1))] [(.int (o_x16 (o_n2 (o_y13 (o_n1 (o_x16 (o_x16 (o_m2 (o_x13 (o_m1 (o_x16 (o_h (1 : Int32) p1))))))))))))]))
    refine o_iload X31 hx (hb hby at_173) (v := ((-1640531527 : Int32) + p1)) rfl (n := 175) rfl ?_
    have hring : (o_h (1 : Int32) p1) = ((-1640531527 : Int32) + p1) := by simp only [o_h, Int32.add_mul, Int32.mul_assoc, show (-1640531527 : Int32) * (-1640531527 : Int32) = -480352335 from by decide, show (-1640531527 : Int32) * (-480352335 : Int32) = 1933744105 from by decide, show (-1640531527 : Int32) * (1933744105 : Int32) = 905701473 from by decide, show (-480352335 : Int32) * (-1640531527 : Int32) = 1933744105 from by decide, show (-480352335 : Int32) * (-480352335 : Int32) = 905701473 from by decide, show (1933744105 : Int32) * (-1640531527 : Int32) = 905701473 from by decide, show (1 : Int32) * (-1640531527 : Int32) = -1640531527 from by decide]
    refine o_icmpN X31 hx (hb hby at_175) (XT.ii_ne_f ((o_inv _).trans hring)) (n := 178) rfl ?_
    refine o_iconst X31 hx (hb hby at_178) (v := (1 : Int32)) rfl (n := 179) rfl ?_
    refine o_goto X31 hx (hb hby at_179) (by decide) (n := 183) (by decide) ?_
    exact o_nreturn X31 hx hret hlk (t := .boolean) (by simp) (hb hby at_183) (by decide) (by decide) e31 ⟨rfl, N32⟩
  · refine o_iloadN X0 hx (hb hby at_0) (v := p0) rfl (n := 1) rfl ?_
    refine o_ldc X0 hx hZ (v := (2147483647 : Int32)) hown (hw _ (List.mem_of_getElem? (i := 0) rfl)) (hb hby at_1) (n := 3) rfl ?_
    refine o_iand X0 hx (hb hby at_3) (v := (p0 &&& (2147483647 : Int32))) rfl (n := 4) rfl ?_
    refine o_iconst X0 hx (hb hby at_4) (v := (5 : Int32)) rfl (n := 5) rfl ?_
    refine o_irem X0 hx (hb hby at_5) (by decide) (v := (2 : Int32)) q (n := 6) rfl ?_
    refine o_istore X0 hx (hb hby at_6) (Ls' := #[.val (.int p0), .val (.int p1), .val (.int p2), .val (.int p3), .val (.int p4), .val (.int p5), .val (.int (2 : Int32)), .unset, .unset, .unset, .unset, .unset, .unset, .unset]) rfl (n := 8) rfl ?_
    refine o_iconst X0 hx (hb hby at_8) (v := (5 : Int32)) rfl (n := 9) rfl ?_
    refine o_newarray X0 hx hZ (aty := .int) (hw _ (List.mem_of_getElem? (i := 1) rfl)) e0 (hb hby at_9) (by decide) 5 (by decide) (by decide) (by decide) (by decide) (n := 11) rfl ?_
    intro T33 h33 b33 k33 X33 e33 g33 E33 V33
    have gg33 : n0 ≤ b33 := Nat.le_trans Z0 (Nat.le_of_eq g33.symm)
    have zz33 : n0 ≤ h33.size := Nat.le_trans Z0 E33.1
    have f34 : Arv Z h33 b33 k33 .int (5 : Int32) [(.int (0 : Int32)), (.int (0 : Int32)), (.int (0 : Int32)), (.int (0 : Int32)), (.int (0 : Int32))] (.int (0 : Int32)) := V33.pad (pad_rep [] (.int (0 : Int32)) 5)
    refine o_dup X33 hx (hb hby at_11) rfl (n := 12) rfl ?_
    refine o_iconst X33 hx (hb hby at_12) (v := (0 : Int32)) rfl (n := 13) rfl ?_
    refine o_iloadN X33 hx (hb hby at_13) (v := p1) rfl (n := 14) rfl ?_
    refine o_iastore X33 hx hZ e33 f34 (0) (by decide) (by decide) (Nat.le_of_ble_eq_true rfl) (w := (.int p1)) rfl (vs' := [(.int p1), (.int (0 : Int32)), (.int (0 : Int32)), (.int (0 : Int32)), (.int (0 : Int32))]) rfl (hb hby at_14) (n := 15) rfl ?_
    intro T35 h35 X35 e35 W35 V35
    have zz35 : n0 ≤ h35.size := Nat.le_trans zz33 (Nat.le_of_eq W35.size.symm)
    have N36 := Fr.snoc X35 N0 gg33
    refine o_dup X35 hx (hb hby at_15) rfl (n := 16) rfl ?_
    refine o_iconst X35 hx (hb hby at_16) (v := (1 : Int32)) rfl (n := 17) rfl ?_
    refine o_iloadN X35 hx (hb hby at_17) (v := p2) rfl (n := 18) rfl ?_
    refine o_iastore X35 hx hZ e35 V35 (1) (by decide) (by decide) (Nat.le_of_ble_eq_true rfl) (w := (.int p2)) rfl (vs' := [(.int p1), (.int p2), (.int (0 : Int32)), (.int (0 : Int32)), (.int (0 : Int32))]) rfl (hb hby at_18) (n := 19) rfl ?_
    intro T37 h37 X37 e37 W37 V37
    have zz37 : n0 ≤ h37.size := Nat.le_trans zz35 (Nat.le_of_eq W37.size.symm)
    have N38 := Fr.snoc X37 N36 gg33
    refine o_dup X37 hx (hb hby at_19) rfl (n := 20) rfl ?_
    refine o_iconst X37 hx (hb hby at_20) (v := (2 : Int32)) rfl (n := 21) rfl ?_
    refine o_iloadN X37 hx (hb hby at_21) (v := p3) rfl (n := 22) rfl ?_
    refine o_iastore X37 hx hZ e37 V37 (2) (by decide) (by decide) (Nat.le_of_ble_eq_true rfl) (w := (.int p3)) rfl (vs' := [(.int p1), (.int p2), (.int p3), (.int (0 : Int32)), (.int (0 : Int32))]) rfl (hb hby at_22) (n := 23) rfl ?_
    intro T39 h39 X39 e39 W39 V39
    have zz39 : n0 ≤ h39.size := Nat.le_trans zz37 (Nat.le_of_eq W39.size.symm)
    have N40 := Fr.snoc X39 N38 gg33
    refine o_dup X39 hx (hb hby at_23) rfl (n := 24) rfl ?_
    refine o_iconst X39 hx (hb hby at_24) (v := (3 : Int32)) rfl (n := 25) rfl ?_
    refine o_iload X39 hx (hb hby at_25) (v := p4) rfl (n := 27) rfl ?_
    refine o_iastore X39 hx hZ e39 V39 (3) (by decide) (by decide) (Nat.le_of_ble_eq_true rfl) (w := (.int p4)) rfl (vs' := [(.int p1), (.int p2), (.int p3), (.int p4), (.int (0 : Int32))]) rfl (hb hby at_27) (n := 28) rfl ?_
    intro T41 h41 X41 e41 W41 V41
    have zz41 : n0 ≤ h41.size := Nat.le_trans zz39 (Nat.le_of_eq W41.size.symm)
    have N42 := Fr.snoc X41 N40 gg33
    refine o_dup X41 hx (hb hby at_28) rfl (n := 29) rfl ?_
    refine o_iconst X41 hx (hb hby at_29) (v := (4 : Int32)) rfl (n := 30) rfl ?_
    refine o_iload X41 hx (hb hby at_30) (v := p5) rfl (n := 32) rfl ?_
    refine o_iastore X41 hx hZ e41 V41 (4) (by decide) (by decide) (Nat.le_of_ble_eq_true rfl) (w := (.int p5)) rfl (vs' := [(.int p1), (.int p2), (.int p3), (.int p4), (.int p5)]) rfl (hb hby at_32) (n := 33) rfl ?_
    intro T43 h43 X43 e43 W43 V43
    have zz43 : n0 ≤ h43.size := Nat.le_trans zz41 (Nat.le_of_eq W43.size.symm)
    have N44 := Fr.snoc X43 N42 gg33
    refine o_astore X43 hx (hb hby at_33) rfl (Ls' := #[.val (.int p0), .val (.int p1), .val (.int p2), .val (.int p3), .val (.int p4), .val (.int p5), .val (.int (2 : Int32)), .val (.ref b33), .unset, .unset, .unset, .unset, .unset, .unset]) rfl (n := 35) rfl ?_
    refine o_aload X43 hx (hb hby at_35) (v := (.ref b33)) rfl rfl (n := 37) rfl ?_
    refine o_iload X43 hx (hb hby at_37) (v := (2 : Int32)) rfl (n := 39) rfl ?_
    refine o_callS X43 hx hZ hown (hw _ (List.mem_of_getElem? (i := 2) rfl)) (hw _ (List.mem_of_getElem? (i := 3) rfl)) (hw _ (List.mem_of_getElem? (i := 4) rfl)) (hw _ (List.mem_of_getElem? (i := 5) rfl)) (by decide) e43 (argsL := [(.ref b33), (.int (2 : Int32))]) (rest := []) (c_hash_2 l Z a0 hw b33 k33 p1 p2 p3 p4 p5 h43 V43) 0 (by decide) (by decide) (by decide) (by decide) (by rw [hml]; rfl) (lenOf o_pd0 rfl) rfl (Nat.le_of_eq rfl) (hb hby at_39) (n := 42) rfl ?_
    intro v45 T45 L45 X45 q45
    obtain ⟨rfl, e45, rfl⟩ := q45
    have N46 := Fr.app N44 (Fr.nil n0)
    show Goes p e below s _ _ _ (T45.setTop (mkF m 42 #[.val (.int p0), .val (.int p1), .val (.int p2), .val (.int p3), .val (.int p4), .val (.int p5), .val (.int (2 : Int32)), .val (.ref b33), .unset, .unset, .unset, .unset, .unset, .unset] [(.int (o_x16 (o_m2 (o_x13 (o_m1 (o_x16 (o_h (o_h (2 : Int32) p1) p2)))))))]))
    refine o_istore X45 hx (hb hby at_42) (Ls' := #[.val (.int p0), .val (.int p1), .val (.int p2), .val (.int p3), .val (.int p4), .val (.int p5), .val (.int (2 : Int32)), .val (.ref b33), .val (.int (o_x16 (o_m2 (o_x13 (o_m1 (o_x16 (o_h (o_h (2 : Int32) p1) p2))))))), .unset, .unset, .unset, .unset, .unset]) rfl (n := 44) rfl ?_
    refine o_ldc X45 hx hZ (v := (-1640531527 : Int32)) hown (hw _ (List.mem_of_getElem? (i := 8) rfl)) (hb hby at_44) (n := 46) rfl ?_
    refine o_istore X45 hx (hb hby at_46) (Ls' := #[.val (.int p0), .val (.int p1), .val (.int p2), .val (.int p3), .val (.int p4), .val (.int p5), .val (.int (2 : Int32)), .val (.ref b33), .val (.int (o_x16 (o_m2 (o_x13 (o_m1 (o_x16 (o_h (o_h (2 : Int32) p1) p2))))))), .val (.int (-1640531527 : Int32)), .unset, .unset, .unset, .unset]) rfl (n := 48) rfl ?_
    refine o_iload X45 hx (hb hby at_48) (v := (-1640531527 : Int32)) rfl (n := 50) rfl ?_
    refine o_iload X45 hx (hb hby at_50) (v := (-1640531527 : Int32)) rfl (n := 52) rfl ?_
    refine o_imul X45 hx (hb hby at_52) (v := (-480352335 : Int32)) (by decide) (n := 53) rfl ?_
    refine o_istore X45 hx (hb hby at_53) (Ls' := #[.val (.int p0), .val (.int p1), .val (.int p2), .val (.int p3), .val (.int p4), .val (.int p5), .val (.int (2 : Int32)), .val (.ref b33), .val (.int (o_x16 (o_m2 (o_x13 (o_m1 (o_x16 (o_h (o_h (2 : Int32) p1) p2))))))), .val (.int (-1640531527 : Int32)), .val (.int (-480352335 : Int32)), .unset, .unset, .unset]) rfl (n := 55) rfl ?_
    refine o_iload X45 hx (hb hby at_55) (v := (-480352335 : Int32)) rfl (n := 57) rfl ?_
    refine o_iload X45 hx (hb hby at_57) (v := (-1640531527 : Int32)) rfl (n := 59) rfl ?_
    refine o_imul X45 hx (hb hby at_59) (v := (1933744105 : Int32)) (by decide) (n := 60) rfl ?_
    refine o_istore X45 hx (hb hby at_60) (Ls' := #[.val (.int p0), .val (.int p1), .val (.int p2), .val (.int p3), .val (.int p4), .val (.int p5), .val (.int (2 : Int32)), .val (.ref b33), .val (.int (o_x16 (o_m2 (o_x13 (o_m1 (o_x16 (o_h (o_h (2 : Int32) p1) p2))))))), .val (.int (-1640531527 : Int32)), .val (.int (-480352335 : Int32)), .val (.int (1933744105 : Int32)), .unset, .unset]) rfl (n := 62) rfl ?_
    refine o_iload X45 hx (hb hby at_62) (v := (1933744105 : Int32)) rfl (n := 64) rfl ?_
    refine o_iload X45 hx (hb hby at_64) (v := (-1640531527 : Int32)) rfl (n := 66) rfl ?_
    refine o_imul X45 hx (hb hby at_66) (v := (905701473 : Int32)) (by decide) (n := 67) rfl ?_
    refine o_istore X45 hx (hb hby at_67) (Ls' := #[.val (.int p0), .val (.int p1), .val (.int p2), .val (.int p3), .val (.int p4), .val (.int p5), .val (.int (2 : Int32)), .val (.ref b33), .val (.int (o_x16 (o_m2 (o_x13 (o_m1 (o_x16 (o_h (o_h (2 : Int32) p1) p2))))))), .val (.int (-1640531527 : Int32)), .val (.int (-480352335 : Int32)), .val (.int (1933744105 : Int32)), .val (.int (905701473 : Int32)), .unset]) rfl (n := 69) rfl ?_
    refine o_iload X45 hx (hb hby at_69) (v := (2 : Int32)) rfl (n := 71) rfl ?_
    refine o_ifY X45 hx (hb hby at_71) (XT.i0_ne_t (by decide)) (by decide) (n := 80) (by decide) ?_
    refine o_iload X45 hx (hb hby at_80) (v := (2 : Int32)) rfl (n := 82) rfl ?_
    refine o_iconst X45 hx (hb hby at_82) (v := (1 : Int32)) rfl (n := 83) rfl ?_
    refine o_icmpY X45 hx (hb hby at_83) (XT.ii_ne_t (by decide)) (by decide) (n := 95) (by decide) ?_
    refine o_iload X45 hx (hb hby at_95) (v := (2 : Int32)) rfl (n := 97) rfl ?_
    refine o_iconst X45 hx (hb hby at_97) (v := (2 : Int32)) rfl (n := 98) rfl ?_
    refine o_icmpN X45 hx (hb hby at_98) (XT.ii_ne_f (by decide)) (n := 101) rfl ?_
    refine o_iconst X45 hx (hb hby at_101) (v := (2 : Int32)) rfl (n := 102) rfl ?_
    refine o_iload X45 hx (hb hby at_102) (v := (-480352335 : Int32)) rfl (n := 104) rfl ?_
    refine o_imul X45 hx (hb hby at_104) (v := (-960704670 : Int32)) (by decide) (n := 105) rfl ?_
    refine o_iloadN X45 hx (hb hby at_105) (v := p1) rfl (n := 106) rfl ?_
    refine o_iload X45 hx (hb hby at_106) (v := (-1640531527 : Int32)) rfl (n := 108) rfl ?_
    refine o_imul X45 hx (hb hby at_108) (v := (p1 * (-1640531527 : Int32))) rfl (n := 109) rfl ?_
    refine o_iadd X45 hx (hb hby at_109) (v := ((-960704670 : Int32) + (p1 * (-1640531527 : Int32)))) rfl (n := 110) rfl ?_
    refine o_iloadN X45 hx (hb hby at_110) (v := p2) rfl (n := 111) rfl ?_
    refine o_iadd X45 hx (hb hby at_111) (v := (((-960704670 : Int32) + (p1 * (-1640531527 : Int32))) + p2)) rfl (n := 112) rfl ?_
    refine o_istore X45 hx (hb hby at_112) (Ls' := #[.val (.int p0), .val (.int p1), .val (.int p2), .val (.int p3), .val (.int p4), .val (.int p5), .val (.int (2 : Int32)), .val (.ref b33), .val (.int (o_x16 (o_m2 (o_x13 (o_m1 (o_x16 (o_h (o_h (2 : Int32) p1) p2))))))), .val (.int (-1640531527 : Int32)), .val (.int (-480352335 : Int32)), .val (.int (1933744105 : Int32)), .val (.int (905701473 : Int32)), .val (.int (((-960704670 : Int32) + (p1 * (-1640531527 : Int32))) + p2))]) rfl (n := 114) rfl ?_
    refine o_goto X45 hx (hb hby at_114) (by decide) (n := 168) (by decide) ?_
    refine o_iload X45 hx (hb hby at_168) (v := (o_x16 (o_m2 (o_x13 (o_m1 (o_x16 (o_h (o_h (2 : Int32) p1) p2))))))) rfl (n := 170) rfl ?_
    refine o_callS X45 hx hZ hown (hw _ (List.mem_of_getElem? (i := 9) rfl)) (hw _ (List.mem_of_getElem? (i := 10) rfl)) (hw _ (List.mem_of_getElem? (i := 11) rfl)) (hw _ (List.mem_of_getElem? (i := 12) rfl)) (by decide) e45 (argsL := [(.int (o_x16 (o_m2 (o_x13 (o_m1 (o_x16 (o_h (o_h (2 : Int32) p1) p2)))))))]) (rest := []) (c_unmix l Z a0 hw (o_x16 (o_m2 (o_x13 (o_m1 (o_x16 (o_h (o_h (2 : Int32) p1) p2)))))) h43) 0 (by decide) (by decide) (by decide) (by decide) (by rw [hml]; rfl) (lenOf o_pd1 rfl) rfl (Nat.le_of_eq rfl) (hb hby at_170) (n := 173) rfl ?_
    intro v47 T47 L47 X47 q47
    obtain ⟨rfl, e47, rfl⟩ := q47
    have N48 := Fr.app N46 (Fr.nil n0)
    show Goes p e below s _ _ _ (T47.setTop (mkF m 173 #[.val (.int p0), .val (.int p1), .val (.int p2), .val (.int p3), .val (.int p4), .val (.int p5), .val (.int (2 : Int32)), .val (.ref b33), .val (.int (o_x16 (o_m2 (o_x13 (o_m1 (o_x16 (o_h (o_h (2 : Int32) p1) p2))))))), .val (.int (-1640531527 : Int32)), .val (.int (-480352335 : Int32)), .val (.int (1933744105 : Int32)), .val (.int (905701473 : Int32)), .val (.int (((-960704670 : Int32) + (p1 * (-1640531527 : Int32))) + p2))] [(.int (o_x16 (o_n2 (o_y13 (o_n1 (o_x16 (o_x16 (o_m2 (o_x13 (o_m1 (o_x16 (o_h (o_h (2 : Int32) p1) p2))))))))))))]))
    refine o_iload X47 hx (hb hby at_173) (v := (((-960704670 : Int32) + (p1 * (-1640531527 : Int32))) + p2)) rfl (n := 175) rfl ?_
    have hring : (o_h (o_h (2 : Int32) p1) p2) = (((-960704670 : Int32) + (p1 * (-1640531527 : Int32))) + p2) := by simp only [o_h, Int32.add_mul, Int32.mul_assoc, show (-1640531527 : Int32) * (-1640531527 : Int32) = -480352335 from by decide, show (-1640531527 : Int32) * (-480352335 : Int32) = 1933744105 from by decide, show (-1640531527 : Int32) * (1933744105 : Int32) = 905701473 from by decide, show (-480352335 : Int32) * (-1640531527 : Int32) = 1933744105 from by decide, show (-480352335 : Int32) * (-480352335 : Int32) = 905701473 from by decide, show (1933744105 : Int32) * (-1640531527 : Int32) = 905701473 from by decide, show (2 : Int32) * (-480352335 : Int32) = -960704670 from by decide]
    refine o_icmpN X47 hx (hb hby at_175) (XT.ii_ne_f ((o_inv _).trans hring)) (n := 178) rfl ?_
    refine o_iconst X47 hx (hb hby at_178) (v := (1 : Int32)) rfl (n := 179) rfl ?_
    refine o_goto X47 hx (hb hby at_179) (by decide) (n := 183) (by decide) ?_
    exact o_nreturn X47 hx hret hlk (t := .boolean) (by simp) (hb hby at_183) (by decide) (by decide) e47 ⟨rfl, N48⟩
  · refine o_iloadN X0 hx (hb hby at_0) (v := p0) rfl (n := 1) rfl ?_
    refine o_ldc X0 hx hZ (v := (2147483647 : Int32)) hown (hw _ (List.mem_of_getElem? (i := 0) rfl)) (hb hby at_1) (n := 3) rfl ?_
    refine o_iand X0 hx (hb hby at_3) (v := (p0 &&& (2147483647 : Int32))) rfl (n := 4) rfl ?_
    refine o_iconst X0 hx (hb hby at_4) (v := (5 : Int32)) rfl (n := 5) rfl ?_
    refine o_irem X0 hx (hb hby at_5) (by decide) (v := (3 : Int32)) q (n := 6) rfl ?_
    refine o_istore X0 hx (hb hby at_6) (Ls' := #[.val (.int p0), .val (.int p1), .val (.int p2), .val (.int p3), .val (.int p4), .val (.int p5), .val (.int (3 : Int32)), .unset, .unset, .unset, .unset, .unset, .unset, .unset]) rfl (n := 8) rfl ?_
    refine o_iconst X0 hx (hb hby at_8) (v := (5 : Int32)) rfl (n := 9) rfl ?_
    refine o_newarray X0 hx hZ (aty := .int) (hw _ (List.mem_of_getElem? (i := 1) rfl)) e0 (hb hby at_9) (by decide) 5 (by decide) (by decide) (by decide) (by decide) (n := 11) rfl ?_
    intro T49 h49 b49 k49 X49 e49 g49 E49 V49
    have gg49 : n0 ≤ b49 := Nat.le_trans Z0 (Nat.le_of_eq g49.symm)
    have zz49 : n0 ≤ h49.size := Nat.le_trans Z0 E49.1
    have f50 : Arv Z h49 b49 k49 .int (5 : Int32) [(.int (0 : Int32)), (.int (0 : Int32)), (.int (0 : Int32)), (.int (0 : Int32)), (.int (0 : Int32))] (.int (0 : Int32)) := V49.pad (pad_rep [] (.int (0 : Int32)) 5)
    refine o_dup X49 hx (hb hby at_11) rfl (n := 12) rfl ?_
    refine o_iconst X49 hx (hb hby at_12) (v := (0 : Int32)) rfl (n := 13) rfl ?_
    refine o_iloadN X49 hx (hb hby at_13) (v := p1) rfl (n := 14) rfl ?_
    refine o_iastore X49 hx hZ e49 f50 (0) (by decide) (by decide) (Nat.le_of_ble_eq_true rfl) (w := (.int p1)) rfl (vs' := [(.int p1), (.int (0 : Int32)), (.int (0 : Int32)), (.int (0 : Int32)), (.int (0 : Int32))]) rfl (hb hby at_14) (n := 15) rfl ?_
    intro T51 h51 X51 e51 W51 V51
    have zz51 : n0 ≤ h51.size := Nat.le_trans zz49 (Nat.le_of_eq W51.size.symm)
    have N52 := Fr.snoc X51 N0 gg49
    refine o_dup X51 hx (hb hby at_15) rfl (n := 16) rfl ?_
    refine o_iconst X51 hx (hb hby at_16) (v := (1 : Int32)) rfl (n := 17) rfl ?_
    refine o_iloadN X51 hx (hb hby at_17) (v := p2) rfl (n := 18) rfl ?_
    refine o_iastore X51 hx hZ e51 V51 (1) (by decide) (by decide) (Nat.le_of_ble_eq_true rfl) (w := (.int p2)) rfl (vs' := [(.int p1), (.int p2), (.int (0 : Int32)), (.int (0 : Int32)), (.int (0 : Int32))]) rfl (hb hby at_18) (n := 19) rfl ?_
    intro T53 h53 X53 e53 W53 V53
    have zz53 : n0 ≤ h53.size := Nat.le_trans zz51 (Nat.le_of_eq W53.size.symm)
    have N54 := Fr.snoc X53 N52 gg49
    refine o_dup X53 hx (hb hby at_19) rfl (n := 20) rfl ?_
    refine o_iconst X53 hx (hb hby at_20) (v := (2 : Int32)) rfl (n := 21) rfl ?_
    refine o_iloadN X53 hx (hb hby at_21) (v := p3) rfl (n := 22) rfl ?_
    refine o_iastore X53 hx hZ e53 V53 (2) (by decide) (by decide) (Nat.le_of_ble_eq_true rfl) (w := (.int p3)) rfl (vs' := [(.int p1), (.int p2), (.int p3), (.int (0 : Int32)), (.int (0 : Int32))]) rfl (hb hby at_22) (n := 23) rfl ?_
    intro T55 h55 X55 e55 W55 V55
    have zz55 : n0 ≤ h55.size := Nat.le_trans zz53 (Nat.le_of_eq W55.size.symm)
    have N56 := Fr.snoc X55 N54 gg49
    refine o_dup X55 hx (hb hby at_23) rfl (n := 24) rfl ?_
    refine o_iconst X55 hx (hb hby at_24) (v := (3 : Int32)) rfl (n := 25) rfl ?_
    refine o_iload X55 hx (hb hby at_25) (v := p4) rfl (n := 27) rfl ?_
    refine o_iastore X55 hx hZ e55 V55 (3) (by decide) (by decide) (Nat.le_of_ble_eq_true rfl) (w := (.int p4)) rfl (vs' := [(.int p1), (.int p2), (.int p3), (.int p4), (.int (0 : Int32))]) rfl (hb hby at_27) (n := 28) rfl ?_
    intro T57 h57 X57 e57 W57 V57
    have zz57 : n0 ≤ h57.size := Nat.le_trans zz55 (Nat.le_of_eq W57.size.symm)
    have N58 := Fr.snoc X57 N56 gg49
    refine o_dup X57 hx (hb hby at_28) rfl (n := 29) rfl ?_
    refine o_iconst X57 hx (hb hby at_29) (v := (4 : Int32)) rfl (n := 30) rfl ?_
    refine o_iload X57 hx (hb hby at_30) (v := p5) rfl (n := 32) rfl ?_
    refine o_iastore X57 hx hZ e57 V57 (4) (by decide) (by decide) (Nat.le_of_ble_eq_true rfl) (w := (.int p5)) rfl (vs' := [(.int p1), (.int p2), (.int p3), (.int p4), (.int p5)]) rfl (hb hby at_32) (n := 33) rfl ?_
    intro T59 h59 X59 e59 W59 V59
    have zz59 : n0 ≤ h59.size := Nat.le_trans zz57 (Nat.le_of_eq W59.size.symm)
    have N60 := Fr.snoc X59 N58 gg49
    refine o_astore X59 hx (hb hby at_33) rfl (Ls' := #[.val (.int p0), .val (.int p1), .val (.int p2), .val (.int p3), .val (.int p4), .val (.int p5), .val (.int (3 : Int32)), .val (.ref b49), .unset, .unset, .unset, .unset, .unset, .unset]) rfl (n := 35) rfl ?_
    refine o_aload X59 hx (hb hby at_35) (v := (.ref b49)) rfl rfl (n := 37) rfl ?_
    refine o_iload X59 hx (hb hby at_37) (v := (3 : Int32)) rfl (n := 39) rfl ?_
    refine o_callS X59 hx hZ hown (hw _ (List.mem_of_getElem? (i := 2) rfl)) (hw _ (List.mem_of_getElem? (i := 3) rfl)) (hw _ (List.mem_of_getElem? (i := 4) rfl)) (hw _ (List.mem_of_getElem? (i := 5) rfl)) (by decide) e59 (argsL := [(.ref b49), (.int (3 : Int32))]) (rest := []) (c_hash_3 l Z a0 hw b49 k49 p1 p2 p3 p4 p5 h59 V59) 0 (by decide) (by decide) (by decide) (by decide) (by rw [hml]; rfl) (lenOf o_pd0 rfl) rfl (Nat.le_of_eq rfl) (hb hby at_39) (n := 42) rfl ?_
    intro v61 T61 L61 X61 q61
    obtain ⟨rfl, e61, rfl⟩ := q61
    have N62 := Fr.app N60 (Fr.nil n0)
    show Goes p e below s _ _ _ (T61.setTop (mkF m 42 #[.val (.int p0), .val (.int p1), .val (.int p2), .val (.int p3), .val (.int p4), .val (.int p5), .val (.int (3 : Int32)), .val (.ref b49), .unset, .unset, .unset, .unset, .unset, .unset] [(.int (o_x16 (o_m2 (o_x13 (o_m1 (o_x16 (o_h (o_h (o_h (3 : Int32) p1) p2) p3)))))))]))
    refine o_istore X61 hx (hb hby at_42) (Ls' := #[.val (.int p0), .val (.int p1), .val (.int p2), .val (.int p3), .val (.int p4), .val (.int p5), .val (.int (3 : Int32)), .val (.ref b49), .val (.int (o_x16 (o_m2 (o_x13 (o_m1 (o_x16 (o_h (o_h (o_h (3 : Int32) p1) p2) p3))))))), .unset, .unset, .unset, .unset, .unset]) rfl (n := 44) rfl ?_
    refine o_ldc X61 hx hZ (v := (-1640531527 : Int32)) hown (hw _ (List.mem_of_getElem? (i := 8) rfl)) (hb hby at_44) (n := 46) rfl ?_
    refine o_istore X61 hx (hb hby at_46) (Ls' := #[.val (.int p0), .val (.int p1), .val (.int p2), .val (.int p3), .val (.int p4), .val (.int p5), .val (.int (3 : Int32)), .val (.ref b49), .val (.int (o_x16 (o_m2 (o_x13 (o_m1 (o_x16 (o_h (o_h (o_h (3 : Int32) p1) p2) p3))))))), .val (.int (-1640531527 : Int32)), .unset, .unset, .unset, .unset]) rfl (n := 48) rfl ?_
    refine o_iload X61 hx (hb hby at_48) (v := (-1640531527 : Int32)) rfl (n := 50) rfl ?_
    refine o_iload X61 hx (hb hby at_50) (v := (-1640531527 : Int32)) rfl (n := 52) rfl ?_
    refine o_imul X61 hx (hb hby at_52) (v := (-480352335 : Int32)) (by decide) (n := 53) rfl ?_
    refine o_istore X61 hx (hb hby at_53) (Ls' := #[.val (.int p0), .val (.int p1), .val (.int p2), .val (.int p3), .val (.int p4), .val (.int p5), .val (.int (3 : Int32)), .val (.ref b49), .val (.int (o_x16 (o_m2 (o_x13 (o_m1 (o_x16 (o_h (o_h (o_h (3 : Int32) p1) p2) p3))))))), .val (.int (-1640531527 : Int32)), .val (.int (-480352335 : Int32)), .unset, .unset, .unset]) rfl (n := 55) rfl ?_
    refine o_iload X61 hx (hb hby at_55) (v := (-480352335 : Int32)) rfl (n := 57) rfl ?_
    refine o_iload X61 hx (hb hby at_57) (v := (-1640531527 : Int32)) rfl (n := 59) rfl ?_
    refine o_imul X61 hx (hb hby at_59) (v := (1933744105 : Int32)) (by decide) (n := 60) rfl ?_
    refine o_istore X61 hx (hb hby at_60) (Ls' := #[.val (.int p0), .val (.int p1), .val (.int p2), .val (.int p3), .val (.int p4), .val (.int p5), .val (.int (3 : Int32)), .val (.ref b49), .val (.int (o_x16 (o_m2 (o_x13 (o_m1 (o_x16 (o_h (o_h (o_h (3 : Int32) p1) p2) p3))))))), .val (.int (-1640531527 : Int32)), .val (.int (-480352335 : Int32)), .val (.int (1933744105 : Int32)), .unset, .unset]) rfl (n := 62) rfl ?_
    refine o_iload X61 hx (hb hby at_62) (v := (1933744105 : Int32)) rfl (n := 64) rfl ?_
    refine o_iload X61 hx (hb hby at_64) (v := (-1640531527 : Int32)) rfl (n := 66) rfl ?_
    refine o_imul X61 hx (hb hby at_66) (v := (905701473 : Int32)) (by decide) (n := 67) rfl ?_
    refine o_istore X61 hx (hb hby at_67) (Ls' := #[.val (.int p0), .val (.int p1), .val (.int p2), .val (.int p3), .val (.int p4), .val (.int p5), .val (.int (3 : Int32)), .val (.ref b49), .val (.int (o_x16 (o_m2 (o_x13 (o_m1 (o_x16 (o_h (o_h (o_h (3 : Int32) p1) p2) p3))))))), .val (.int (-1640531527 : Int32)), .val (.int (-480352335 : Int32)), .val (.int (1933744105 : Int32)), .val (.int (905701473 : Int32)), .unset]) rfl (n := 69) rfl ?_
    refine o_iload X61 hx (hb hby at_69) (v := (3 : Int32)) rfl (n := 71) rfl ?_
    refine o_ifY X61 hx (hb hby at_71) (XT.i0_ne_t (by decide)) (by decide) (n := 80) (by decide) ?_
    refine o_iload X61 hx (hb hby at_80) (v := (3 : Int32)) rfl (n := 82) rfl ?_
    refine o_iconst X61 hx (hb hby at_82) (v := (1 : Int32)) rfl (n := 83) rfl ?_
    refine o_icmpY X61 hx (hb hby at_83) (XT.ii_ne_t (by decide)) (by decide) (n := 95) (by decide) ?_
    refine o_iload X61 hx (hb hby at_95) (v := (3 : Int32)) rfl (n := 97) rfl ?_
    refine o_iconst X61 hx (hb hby at_97) (v := (2 : Int32)) rfl (n := 98) rfl ?_
    refine o_icmpY X61 hx (hb hby at_98) (XT.ii_ne_t (by decide)) (by decide) (n := 117) (by decide) ?_
    refine o_iload X61 hx (hb hby at_117) (v := (3 : Int32)) rfl (n := 119) rfl ?_
    refine o_iconst X61 hx (hb hby at_119) (v := (3 : Int32)) rfl (n := 120) rfl ?_
    refine o_icmpN X61 hx (hb hby at_120) (XT.ii_ne_f (by decide)) (n := 123) rfl ?_
    refine o_iconst X61 hx (hb hby at_123) (v := (3 : Int32)) rfl (n := 124) rfl ?_
    refine o_iload X61 hx (hb hby at_124) (v := (1933744105 : Int32)) rfl (n := 126) rfl ?_
    refine o_imul X61 hx (hb hby at_126) (v := (1506265019 : Int32)) (by decide) (n := 127) rfl ?_
    refine o_iloadN X61 hx (hb hby at_127) (v := p1) rfl (n := 128) rfl ?_
    refine o_iload X61 hx (hb hby at_128) (v := (-480352335 : Int32)) rfl (n := 130) rfl ?_
    refine o_imul X61 hx (hb hby at_130) (v := (p1 * (-480352335 : Int32))) rfl (n := 131) rfl ?_
    refine o_iadd X61 hx (hb hby at_131) (v := ((1506265019 : Int32) + (p1 * (-480352335 : Int32)))) rfl (n := 132) rfl ?_
    refine o_iloadN X61 hx (hb hby at_132) (v := p2) rfl (n := 133) rfl ?_
    refine o_iload X61 hx (hb hby at_133) (v := (-1640531527 : Int32)) rfl (n := 135) rfl ?_
    refine o_imul X61 hx (hb hby at_135) (v := (p2 * (-1640531527 : Int32))) rfl (n := 136) rfl ?_
    refine o_iadd X61 hx (hb hby at_136) (v := (((1506265019 : Int32) + (p1 * (-480352335 : Int32))) + (p2 * (-1640531527 : Int32)))) rfl (n := 137) rfl ?_
    refine o_iloadN X61 hx (hb hby at_137) (v := p3) rfl (n := 138) rfl ?_
    refine o_iadd X61 hx (hb hby at_138) (v := ((((1506265019 : Int32) + (p1 * (-480352335 : Int32))) + (p2 * (-1640531527 : Int32))) + p3)) rfl (n := 139) rfl ?_
    refine o_istore X61 hx (hb hby at_139) (Ls' := #[.val (.int p0), .val (.int p1), .val (.int p2), .val (.int p3), .val (.int p4), .val (.int p5), .val (.int (3 : Int32)), .val (.ref b49), .val (.int (o_x16 (o_m2 (o_x13 (o_m1 (o_x16 (o_h (o_h (o_h (3 : Int32) p1) p2) p3))))))), .val (.int (-1640531527 : Int32)), .val (.int (-480352335 : Int32)), .val (.int (1933744105 : Int32)), .val (.int (905701473 : Int32)), .val (.int ((((1506265019 : Int32) + (p1 * (-480352335 : Int32))) + (p2 * (-1640531527 : Int32))) + p3))]) rfl (n := 141) rfl ?_
    refine o_goto X61 hx (hb hby at_141) (by decide) (n := 168) (by decide) ?_
    refine o_iload X61 hx (hb hby at_168) (v := (o_x16 (o_m2 (o_x13 (o_m1 (o_x16 (o_h (o_h (o_h (3 : Int32) p1) p2) p3))))))) rfl (n := 170) rfl ?_
    refine o_callS X61 hx hZ hown (hw _ (List.mem_of_getElem? (i := 9) rfl)) (hw _ (List.mem_of_getElem? (i := 10) rfl)) (hw _ (List.mem_of_getElem? (i := 11) rfl)) (hw _ (List.mem_of_getElem? (i := 12) rfl)) (by decide) e61 (argsL := [(.int (o_x16 (o_m2 (o_x13 (o_m1 (o_x16 (o_h (o_h (o_h (3 : Int32) p1) p2) p3)))))))]) (rest := []) (c_unmix l Z a0 hw (o_x16 (o_m2 (o_x13 (o_m1 (o_x16 (o_h (o_h (o_h (3 : Int32) p1) p2) p3)))))) h59) 0 (by decide) (by decide) (by decide) (by decide) (by rw [hml]; rfl) (lenOf o_pd1 rfl) rfl (Nat.le_of_eq rfl) (hb hby at_170) (n := 173) rfl ?_
    intro v63 T63 L63 X63 q63
    obtain ⟨rfl, e63, rfl⟩ := q63
    have N64 := Fr.app N62 (Fr.nil n0)
    show Goes p e below s _ _ _ (T63.setTop (mkF m 173 #[.val (.int p0), .val (.int p1), .val (.int p2), .val (.int p3), .val (.int p4), .val (.int p5), .val (.int (3 : Int32)), .val (.ref b49), .val (.int (o_x16 (o_m2 (o_x13 (o_m1 (o_x16 (o_h (o_h (o_h (3 : Int32) p1) p2) p3))))))), .val (.int (-1640531527 : Int32)), .val (.int (-480352335 : Int32)), .val (.int (1933744105 : Int32)), .val (.int (905701473 : Int32)), .val (.int ((((1506265019 : Int32) + (p1 * (-480352335 : Int32))) + (p2 * (-1640531527 : Int32))) + p3))] [(.int (o_x16 (o_n2 (o_y13 (o_n1 (o_x16 (o_x16 (o_m2 (o_x13 (o_m1 (o_x16 (o_h (o_h (o_h (3 : Int32) p1) p2) p3))))))))))))]))
    refine o_iload X63 hx (hb hby at_173) (v := ((((1506265019 : Int32) + (p1 * (-480352335 : Int32))) + (p2 * (-1640531527 : Int32))) + p3)) rfl (n := 175) rfl ?_
    have hring : (o_h (o_h (o_h (3 : Int32) p1) p2) p3) = ((((1506265019 : Int32) + (p1 * (-480352335 : Int32))) + (p2 * (-1640531527 : Int32))) + p3) := by simp only [o_h, Int32.add_mul, Int32.mul_assoc, show (-1640531527 : Int32) * (-1640531527 : Int32) = -480352335 from by decide, show (-1640531527 : Int32) * (-480352335 : Int32) = 1933744105 from by decide, show (-1640531527 : Int32) * (1933744105 : Int32) = 905701473 from by decide, show (-480352335 : Int32) * (-1640531527 : Int32) = 1933744105 from by decide, show (-480352335 : Int32) * (-480352335 : Int32) = 905701473 from by decide, show (1933744105 : Int32) * (-1640531527 : Int32) = 905701473 from by decide, show (3 : Int32) * (1933744105 : Int32) = 1506265019 from by decide]
    refine o_icmpN X63 hx (hb hby at_175) (XT.ii_ne_f ((o_inv _).trans hring)) (n := 178) rfl ?_
    refine o_iconst X63 hx (hb hby at_178) (v := (1 : Int32)) rfl (n := 179) rfl ?_
    refine o_goto X63 hx (hb hby at_179) (by decide) (n := 183) (by decide) ?_
    exact o_nreturn X63 hx hret hlk (t := .boolean) (by simp) (hb hby at_183) (by decide) (by decide) e63 ⟨rfl, N64⟩
  · refine o_iloadN X0 hx (hb hby at_0) (v := p0) rfl (n := 1) rfl ?_
    refine o_ldc X0 hx hZ (v := (2147483647 : Int32)) hown (hw _ (List.mem_of_getElem? (i := 0) rfl)) (hb hby at_1) (n := 3) rfl ?_
    refine o_iand X0 hx (hb hby at_3) (v := (p0 &&& (2147483647 : Int32))) rfl (n := 4) rfl ?_
    refine o_iconst X0 hx (hb hby at_4) (v := (5 : Int32)) rfl (n := 5) rfl ?_
    refine o_irem X0 hx (hb hby at_5) (by decide) (v := (4 : Int32)) q (n := 6) rfl ?_
    refine o_istore X0 hx (hb hby at_6) (Ls' := #[.val (.int p0), .val (.int p1), .val (.int p2), .val (.int p3), .val (.int p4), .val (.int p5), .val (.int (4 : Int32)), .unset, .unset, .unset, .unset, .unset, .unset, .unset]) rfl (n := 8) rfl ?_
    refine o_iconst X0 hx (hb hby at_8) (v := (5 : Int32)) rfl (n := 9) rfl ?_
    refine o_newarray X0 hx hZ (aty := .int) (hw _ (List.mem_of_getElem? (i := 1) rfl)) e0 (hb hby at_9) (by decide) 5 (by decide) (by decide) (by decide) (by decide) (n := 11) rfl ?_
    intro T65 h65 b65 k65 X65 e65 g65 E65 V65
    have gg65 : n0 ≤ b65 := Nat.le_trans Z0 (Nat.le_of_eq g65.symm)
    have zz65 : n0 ≤ h65.size := Nat.le_trans Z0 E65.1
    have f66 : Arv Z h65 b65 k65 .int (5 : Int32) [(.int (0 : Int32)), (.int (0 : Int32)), (.int (0 : Int32)), (.int (0 : Int32)), (.int (0 : Int32))] (.int (0 : Int32)) := V65.pad (pad_rep [] (.int (0 : Int32)) 5)
    refine o_dup X65 hx (hb hby at_11) rfl (n := 12) rfl ?_
    refine o_iconst X65 hx (hb hby at_12) (v := (0 : Int32)) rfl (n := 13) rfl ?_
    refine o_iloadN X65 hx (hb hby at_13) (v := p1) rfl (n := 14) rfl ?_
    refine o_iastore X65 hx hZ e65 f66 (0) (by decide) (by decide) (Nat.le_of_ble_eq_true rfl) (w := (.int p1)) rfl (vs' := [(.int p1), (.int (0 : Int32)), (.int (0 : Int32)), (.int (0 : Int32)), (.int (0 : Int32))]) rfl (hb hby at_14) (n := 15) rfl ?_
    intro T67 h67 X67 e67 W67 V67
    have zz67 : n0 ≤ h67.size := Nat.le_trans zz65 (Nat.le_of_eq W67.size.symm)
    have N68 := Fr.snoc X67 N0 gg65
    refine o_dup X67 hx (hb hby at_15) rfl (n := 16) rfl ?_
    refine o_iconst X67 hx (hb hby at_16) (v := (1 : Int32)) rfl (n := 17) rfl ?_
    refine o_iloadN X67 hx (hb hby at_17) (v := p2) rfl (n := 18) rfl ?_
    refine o_iastore X67 hx hZ e67 V67 (1) (by decide) (by decide) (Nat.le_of_ble_eq_true rfl) (w := (.int p2)) rfl (vs' := [(.int p1), (.int p2), (.int (0 : Int32)), (.int (0 : Int32)), (.int (0 : Int32))]) rfl (hb hby at_18) (n := 19) rfl ?_
    intro T69 h69 X69 e69 W69 V69
    have zz69 : n0 ≤ h69.size := Nat.le_trans zz67 (Nat.le_of_eq W69.size.symm)
    have N70 := Fr.snoc X69 N68 gg65
    refine o_dup X69 hx (hb hby at_19) rfl (n := 20) rfl ?_
    refine o_iconst X69 hx (hb hby at_20) (v := (2 : Int32)) rfl (n := 21) rfl ?_
    refine o_iloadN X69 hx (hb hby at_21) (v := p3) rfl (n := 22) rfl ?_
    refine o_iastore X69 hx hZ e69 V69 (2) (by decide) (by decide) (Nat.le_of_ble_eq_true rfl) (w := (.int p3)) rfl (vs' := [(.int p1), (.int p2), (.int p3), (.int (0 : Int32)), (.int (0 : Int32))]) rfl (hb hby at_22) (n := 23) rfl ?_
    intro T71 h71 X71 e71 W71 V71
    have zz71 : n0 ≤ h71.size := Nat.le_trans zz69 (Nat.le_of_eq W71.size.symm)
    have N72 := Fr.snoc X71 N70 gg65
    refine o_dup X71 hx (hb hby at_23) rfl (n := 24) rfl ?_
    refine o_iconst X71 hx (hb hby at_24) (v := (3 : Int32)) rfl (n := 25) rfl ?_
    refine o_iload X71 hx (hb hby at_25) (v := p4) rfl (n := 27) rfl ?_
    refine o_iastore X71 hx hZ e71 V71 (3) (by decide) (by decide) (Nat.le_of_ble_eq_true rfl) (w := (.int p4)) rfl (vs' := [(.int p1), (.int p2), (.int p3), (.int p4), (.int (0 : Int32))]) rfl (hb hby at_27) (n := 28) rfl ?_
    intro T73 h73 X73 e73 W73 V73
    have zz73 : n0 ≤ h73.size := Nat.le_trans zz71 (Nat.le_of_eq W73.size.symm)
    have N74 := Fr.snoc X73 N72 gg65
    refine o_dup X73 hx (hb hby at_28) rfl (n := 29) rfl ?_
    refine o_iconst X73 hx (hb hby at_29) (v := (4 : Int32)) rfl (n := 30) rfl ?_
    refine o_iload X73 hx (hb hby at_30) (v := p5) rfl (n := 32) rfl ?_
    refine o_iastore X73 hx hZ e73 V73 (4) (by decide) (by decide) (Nat.le_of_ble_eq_true rfl) (w := (.int p5)) rfl (vs' := [(.int p1), (.int p2), (.int p3), (.int p4), (.int p5)]) rfl (hb hby at_32) (n := 33) rfl ?_
    intro T75 h75 X75 e75 W75 V75
    have zz75 : n0 ≤ h75.size := Nat.le_trans zz73 (Nat.le_of_eq W75.size.symm)
    have N76 := Fr.snoc X75 N74 gg65
    refine o_astore X75 hx (hb hby at_33) rfl (Ls' := #[.val (.int p0), .val (.int p1), .val (.int p2), .val (.int p3), .val (.int p4), .val (.int p5), .val (.int (4 : Int32)), .val (.ref b65), .unset, .unset, .unset, .unset, .unset, .unset]) rfl (n := 35) rfl ?_
    refine o_aload X75 hx (hb hby at_35) (v := (.ref b65)) rfl rfl (n := 37) rfl ?_
    refine o_iload X75 hx (hb hby at_37) (v := (4 : Int32)) rfl (n := 39) rfl ?_
    refine o_callS X75 hx hZ hown (hw _ (List.mem_of_getElem? (i := 2) rfl)) (hw _ (List.mem_of_getElem? (i := 3) rfl)) (hw _ (List.mem_of_getElem? (i := 4) rfl)) (hw _ (List.mem_of_getElem? (i := 5) rfl)) (by decide) e75 (argsL := [(.ref b65), (.int (4 : Int32))]) (rest := []) (c_hash_4 l Z a0 hw b65 k65 p1 p2 p3 p4 p5 h75 V75) 0 (by decide) (by decide) (by decide) (by decide) (by rw [hml]; rfl) (lenOf o_pd0 rfl) rfl (Nat.le_of_eq rfl) (hb hby at_39) (n := 42) rfl ?_
    intro v77 T77 L77 X77 q77
    obtain ⟨rfl, e77, rfl⟩ := q77
    have N78 := Fr.app N76 (Fr.nil n0)
    show Goes p e below s _ _ _ (T77.setTop (mkF m 42 #[.val (.int p0), .val (.int p1), .val (.int p2), .val (.int p3), .val (.int p4), .val (.int p5), .val (.int (4 : Int32)), .val (.ref b65), .unset, .unset, .unset, .unset, .unset, .unset] [(.int (o_x16 (o_m2 (o_x13 (o_m1 (o_x16 (o_h (o_h (o_h (o_h (4 : Int32) p1) p2) p3) p4)))))))]))
    refine o_istore X77 hx (hb hby at_42) (Ls' := #[.val (.int p0), .val (.int p1), .val (.int p2), .val (.int p3), .val (.int p4), .val (.int p5), .val (.int (4 : Int32)), .val (.ref b65), .val (.int (o_x16 (o_m2 (o_x13 (o_m1 (o_x16 (o_h (o_h (o_h (o_h (4 : Int32) p1) p2) p3) p4))))))), .unset, .unset, .unset, .unset, .unset]) rfl (n := 44) rfl ?_
    refine o_ldc X77 hx hZ (v := (-1640531527 : Int32)) hown (hw _ (List.mem_of_getElem? (i := 8) rfl)) (hb hby at_44) (n := 46) rfl ?_
    refine o_istore X77 hx (hb hby at_46) (Ls' := #[.val (.int p0), .val (.int p1), .val (.int p2), .val (.int p3), .val (.int p4), .val (.int p5), .val (.int (4 : Int32)), .val (.ref b65), .val (.int (o_x16 (o_m2 (o_x13 (o_m1 (o_x16 (o_h (o_h (o_h (o_h (4 : Int32) p1) p2) p3) p4))))))), .val (.int (-1640531527 : Int32)), .unset, .unset, .unset, .unset]) rfl (n := 48) rfl ?_
    refine o_iload X77 hx (hb hby at_48) (v := (-1640531527 : Int32)) rfl (n := 50) rfl ?_
    refine o_iload X77 hx (hb hby at_50) (v := (-1640531527 : Int32)) rfl (n := 52) rfl ?_
    refine o_imul X77 hx (hb hby at_52) (v := (-480352335 : Int32)) (by decide) (n := 53) rfl ?_
    refine o_istore X77 hx (hb hby at_53) (Ls' := #[.val (.int p0), .val (.int p1), .val (.int p2), .val (.int p3), .val (.int p4), .val (.int p5), .val (.int (4 : Int32)), .val (.ref b65), .val (.int (o_x16 (o_m2 (o_x13 (o_m1 (o_x16 (o_h (o_h (o_h (o_h (4 : Int32) p1) p2) p3) p4))))))), .val (.int (-1640531527 : Int32)), .val (.int (-480352335 : Int32)), .unset, .unset, .unset]) rfl (n := 55) rfl ?_
    refine o_iload X77 hx (hb hby at_55) (v := (-480352335 : Int32)) rfl (n := 57) rfl ?_
    refine o_iload X77 hx (hb hby at_57) (v := (-1640531527 : Int32)) rfl (n := 59) rfl ?_
    refine o_imul X77 hx (hb hby at_59) (v := (1933744105 : Int32)) (by decide) (n := 60) rfl ?_
    refine o_istore X77 hx (hb hby at_60) (Ls' := #[.val (.int p0), .val (.int p1), .val (.int p2), .val (.int p3), .val (.int p4), .val (.int p5), .val (.int (4 : Int32)), .val (.ref b65), .val (.int (o_x16 (o_m2 (o_x13 (o_m1 (o_x16 (o_h (o_h (o_h (o_h (4 : Int32) p1) p2) p3) p4))))))), .val (.int (-1640531527 : Int32)), .val (.int (-480352335 : Int32)), .val (.int (1933744105 : Int32)), .unset, .unset]) rfl (n := 62) rfl ?_
    refine o_iload X77 hx (hb hby at_62) (v := (1933744105 : Int32)) rfl (n := 64) rfl ?_
    refine o_iload X77 hx (hb hby at_64) (v := (-1640531527 : Int32)) rfl (n := 66) rfl ?_
    refine o_imul X77 hx (hb hby at_66) (v := (905701473 : Int32)) (by decide) (n := 67) rfl ?_
    refine o_istore X77 hx (hb hby at_67) (Ls' := #[.val (.int p0), .val (.int p1), .val (.int p2), .val (.int p3), .val (.int p4), .val (.int p5), .val (.int (4 : Int32)), .val (.ref b65), .val (.int (o_x16 (o_m2 (o_x13 (o_m1 (o_x16 (o_h (o_h (o_h (o_h (4 : Int32) p1) p2) p3) p4))))))), .val (.int (-1640531527 : Int32)), .val (.int (-480352335 : Int32)), .val (.int (1933744105 : Int32)), .val (.int (905701473 : Int32)), .unset]) rfl (n := 69) rfl ?_
    refine o_iload X77 hx (hb hby at_69) (v := (4 : Int32)) rfl (n := 71) rfl ?_
    refine o_ifY X77 hx (hb hby at_71) (XT.i0_ne_t (by decide)) (by decide) (n := 80) (by decide) ?_
    refine o_iload X77 hx (hb hby at_80) (v := (4 : Int32)) rfl (n := 82) rfl ?_
    refine o_iconst X77 hx (hb hby at_82) (v := (1 : Int32)) rfl (n := 83) rfl ?_
    refine o_icmpY X77 hx (hb hby at_83) (XT.ii_ne_t (by decide)) (by decide) (n := 95) (by decide) ?_
    refine o_iload X77 hx (hb hby at_95) (v := (4 : Int32)) rfl (n := 97) rfl ?_
    refine o_iconst X77 hx (hb hby at_97) (v := (2 : Int32)) rfl (n := 98) rfl ?_
    refine o_icmpY X77 hx (hb hby at_98) (XT.ii_ne_t (by decide)) (by decide) (n := 117) (by decide) ?_
    refine o_iload X77 hx (hb hby at_117) (v := (4 : Int32)) rfl (n := 119) rfl ?_
    refine o_iconst X77 hx (hb hby at_119) (v := (3 : Int32)) rfl (n := 120) rfl ?_
    refine o_icmpY X77 hx (hb hby at_120) (XT.ii_ne_t (by decide)) (by decide) (n := 144) (by decide) ?_
    refine o_iconst X77 hx (hb hby at_144) (v := (4 : Int32)) rfl (n := 145) rfl ?_
    refine o_iload X77 hx (hb hby at_145) (v := (905701473 : Int32)) rfl (n := 147) rfl ?_
    refine o_imul X77 hx (hb hby at_147) (v := (-672161404 : Int32)) (by decide) (n := 148) rfl ?_
    refine o_iloadN X77 hx (hb hby at_148) (v := p1) rfl (n := 149) rfl ?_
    refine o_iload X77 hx (hb hby at_149) (v := (1933744105 : Int32)) rfl (n := 151) rfl ?_
    refine o_imul X77 hx (hb hby at_151) (v := (p1 * (1933744105 : Int32))) rfl (n := 152) rfl ?_
    refine o_iadd X77 hx (hb hby at_152) (v := ((-672161404 : Int32) + (p1 * (1933744105 : Int32)))) rfl (n := 153) rfl ?_
    refine o_iloadN X77 hx (hb hby at_153) (v := p2) rfl (n := 154) rfl ?_
    refine o_iload X77 hx (hb hby at_154) (v := (-480352335 : Int32)) rfl (n := 156) rfl ?_
    refine o_imul X77 hx (hb hby at_156) (v := (p2 * (-480352335 : Int32))) rfl (n := 157) rfl ?_
    refine o_iadd X77 hx (hb hby at_157) (v := (((-672161404 : Int32) + (p1 * (1933744105 : Int32))) + (p2 * (-480352335 : Int32)))) rfl (n := 158) rfl ?_
    refine o_iloadN X77 hx (hb hby at_158) (v := p3) rfl (n := 159) rfl ?_
    refine o_iload X77 hx (hb hby at_159) (v := (-1640531527 : Int32)) rfl (n := 161) rfl ?_
    refine o_imul X77 hx (hb hby at_161) (v := (p3 * (-1640531527 : Int32))) rfl (n := 162) rfl ?_
    refine o_iadd X77 hx (hb hby at_162) (v := ((((-672161404 : Int32) + (p1 * (1933744105 : Int32))) + (p2 * (-480352335 : Int32))) + (p3 * (-1640531527 : Int32)))) rfl (n := 163) rfl ?_
    refine o_iload X77 hx (hb hby at_163) (v := p4) rfl (n := 165) rfl ?_
    refine o_iadd X77 hx (hb hby at_165) (v := (((((-672161404 : Int32) + (p1 * (1933744105 : Int32))) + (p2 * (-480352335 : Int32))) + (p3 * (-1640531527 : Int32))) + p4)) rfl (n := 166) rfl ?_
    refine o_istore X77 hx (hb hby at_166) (Ls' := #[.val (.int p0), .val (.int p1), .val (.int p2), .val (.int p3), .val (.int p4), .val (.int p5), .val (.int (4 : Int32)), .val (.ref b65), .val (.int (o_x16 (o_m2 (o_x13 (o_m1 (o_x16 (o_h (o_h (o_h (o_h (4 : Int32) p1) p2) p3) p4))))))), .val (.int (-1640531527 : Int32)), .val (.int (-480352335 : Int32)), .val (.int (1933744105 : Int32)), .val (.int (905701473 : Int32)), .val (.int (((((-672161404 : Int32) + (p1 * (1933744105 : Int32))) + (p2 * (-480352335 : Int32))) + (p3 * (-1640531527 : Int32))) + p4))]) rfl (n := 168) rfl ?_
    refine o_iload X77 hx (hb hby at_168) (v := (o_x16 (o_m2 (o_x13 (o_m1 (o_x16 (o_h (o_h (o_h (o_h (4 : Int32) p1) p2) p3) p4))))))) rfl (n := 170) rfl ?_
    refine o_callS X77 hx hZ hown (hw _ (List.mem_of_getElem? (i := 9) rfl)) (hw _ (List.mem_of_getElem? (i := 10) rfl)) (hw _ (List.mem_of_getElem? (i := 11) rfl)) (hw _ (List.mem_of_getElem? (i := 12) rfl)) (by decide) e77 (argsL := [(.int (o_x16 (o_m2 (o_x13 (o_m1 (o_x16 (o_h (o_h (o_h (o_h (4 : Int32) p1) p2) p3) p4)))))))]) (rest := []) (c_unmix l Z a0 hw (o_x16 (o_m2 (o_x13 (o_m1 (o_x16 (o_h (o_h (o_h (o_h (4 : Int32) p1) p2) p3) p4)))))) h75) 0 (by decide) (by decide) (by decide) (by decide) (by rw [hml]; rfl) (lenOf o_pd1 rfl) rfl (Nat.le_of_eq rfl) (hb hby at_170) (n := 173) rfl ?_
    intro v79 T79 L79 X79 q79
    obtain ⟨rfl, e79, rfl⟩ := q79
    have N80 := Fr.app N78 (Fr.nil n0)
    show Goes p e below s _ _ _ (T79.setTop (mkF m 173 #[.val (.int p0), .val (.int p1), .val (.int p2), .val (.int p3), .val (.int p4), .val (.int p5), .val (.int (4 : Int32)), .val (.ref b65), .val (.int (o_x16 (o_m2 (o_x13 (o_m1 (o_x16 (o_h (o_h (o_h (o_h (4 : Int32) p1) p2) p3) p4))))))), .val (.int (-1640531527 : Int32)), .val (.int (-480352335 : Int32)), .val (.int (1933744105 : Int32)), .val (.int (905701473 : Int32)), .val (.int (((((-672161404 : Int32) + (p1 * (1933744105 : Int32))) + (p2 * (-480352335 : Int32))) + (p3 * (-1640531527 : Int32))) + p4))] [(.int (o_x16 (o_n2 (o_y13 (o_n1 (o_x16 (o_x16 (o_m2 (o_x13 (o_m1 (o_x16 (o_h (o_h (o_h (o_h (4 : Int32) p1) p2) p3) p4))))))))))))]))
    refine o_iload X79 hx (hb hby at_173) (v := (((((-672161404 : Int32) + (p1 * (1933744105 : Int32))) + (p2 * (-480352335 : Int32))) + (p3 * (-1640531527 : Int32))) + p4)) rfl (n := 175) rfl ?_
    have hring : (o_h (o_h (o_h (o_h (4 : Int32) p1) p2) p3) p4) = (((((-672161404 : Int32) + (p1 * (1933744105 : Int32))) + (p2 * (-480352335 : Int32))) + (p3 * (-1640531527 : Int32))) + p4) := by simp only [o_h, Int32.add_mul, Int32.mul_assoc, show (-1640531527 : Int32) * (-1640531527 : Int32) = -480352335 from by decide, show (-1640531527 : Int32) * (-480352335 : Int32) = 1933744105 from by decide, show (-1640531527 : Int32) * (1933744105 : Int32) = 905701473 from by decide, show (-480352335 : Int32) * (-1640531527 : Int32) = 1933744105 from by decide, show (-480352335 : Int32) * (-480352335 : Int32) = 905701473 from by decide, show (1933744105 : Int32) * (-1640531527 : Int32) = 905701473 from by decide, show (4 : Int32) * (905701473 : Int32) = -672161404 from by decide]
    refine o_icmpN X79 hx (hb hby at_175) (XT.ii_ne_f ((o_inv _).trans hring)) (n := 178) rfl ?_
    refine o_iconst X79 hx (hb hby at_178) (v := (1 : Int32)) rfl (n := 179) rfl ?_
    refine o_goto X79 hx (hb hby at_179) (by decide) (n := 183) (by decide) ?_
    exact o_nreturn X79 hx hret hlk (t := .boolean) (by simp) (hb hby at_183) (by decide) (by decide) e79 ⟨rfl, N80⟩
set_option maxRecDepth 65536 in
set_option maxHeartbeats 40000000 in
theorem comes_1 {Post : Tables → Env → Array Value → State → Outcome → State → Prop} (hpost : ∀ tb e args s v u, (limb_1_1.after args s (.returned v) u = true ∧ limb_1_2.after args s (.returned v) u = true ∧ True) → FrameEnd s (.returned v) u (Jvm.fieldLocs frame_1_writes args s ++ Jvm.arrayLocs frame_1_arrays args s ++ Jvm.staticLocs frame_1_statics s) 16 128 → Post tb e args s (.returned v) u) :
    ArmFor flags0 classFile x code maxLocals ret World_1 tables_1 room_1 Calls_1 rest_1 Pre_1 Post := by
  intro l hfl _ _ p e ha hc hk s m args below hf hA hF happ hP
  obtain ⟨hcalls, hrest, hpre⟩ := hP
  obtain ⟨-, -, -, hnamed, -, -, -, hat⟩ := (Spec.applies_iff hf).mp happ
  obtain ⟨hg, hn⟩ := and_e (Cond.before_iff.mp (show (Jvm.Cond.and given_1 narrow_1).before args s = true from hpre))
  obtain ⟨gv1, gv2⟩ := and_e hg
  obtain ⟨gv3, gv4⟩ := and_e gv2
  obtain ⟨gv5, gv6⟩ := and_e gv4
  obtain ⟨gv7, gv8⟩ := and_e gv6
  obtain ⟨gv9, gv10⟩ := and_e gv8
  obtain ⟨gv11, gv12⟩ := and_e gv10
  obtain ⟨w0, w1, w2, w3, w4, w5, rfl⟩ : ∃ w0 w1 w2 w3 w4 w5 : Value, args = #[w0, w1, w2, w3, w4, w5] := by
    have hs : args.size = 6 := by simpa [Cond.value, given_1] using gv1
    obtain ⟨L⟩ := args
    match L, hs with
    | [w0, w1, w2, w3, w4, w5], _ => exact ⟨w0, w1, w2, w3, w4, w5, rfl⟩
  have hw := fun d (hd : d ∈ tables_1) => atoms_spec (ws := Jvm.Cond.code x code maxLocals ret :: tables_1) hat d (List.mem_cons_of_mem _ hd)
  have hfit : Fit s := fun {y c} hc i hi => by
    obtain ⟨ha, rfl⟩ := Array.getElem?_eq_some_iff.mp hc
    have q := List.all_eq_true.mp ((Array.all_eq_true_iff_forall_mem.mp hF) _ (Array.getElem_mem ha)) i (List.mem_range.mpr hi)
    simpa [Array.getElem?_eq_getElem hi] using q
  obtain ⟨i0, ei0⟩ := is_v gv3
  obtain rfl : w0 = (.int i0) := Option.some.inj ei0
  obtain ⟨i1, ei1⟩ := is_v gv5
  obtain rfl : w1 = (.int i1) := Option.some.inj ei1
  obtain ⟨i2, ei2⟩ := is_v gv7
  obtain rfl : w2 = (.int i2) := Option.some.inj ei2
  obtain ⟨i3, ei3⟩ := is_v gv9
  obtain rfl : w3 = (.int i3) := Option.some.inj ei3
  obtain ⟨i4, ei4⟩ := is_v gv11
  obtain rfl : w4 = (.int i4) := Option.some.inj ei4
  obtain ⟨i5, ei5⟩ := is_v gv12
  obtain rfl : w5 = (.int i5) := Option.some.inj ei5
  obtain ⟨n, o, h1, h2, h3, _, L, rfl, ⟨rfl, N⟩, hq⟩ := o_law l s _ hw i0 i1 i2 i3 i4 i5 s.heap s.heap.size (Nat.le_refl _) p e ha hc hk s m _ below hf ((Spec.applies_iff_loose hf).mp happ).1 ⟨rfl, State.Warmed39.refl s, rfl⟩ trivial
  refine ⟨n, _, h1, h2, h3, hpost _ _ _ _ _ _ ⟨Cond.after_iff.mpr rfl, Cond.after_iff.mpr (eq_i res_at (Term.int_eval (1)) rfl), trivial⟩ ⟨hq.1, hq.2.1, (hq.2.2.sift fun y hy => Or.inr (N y hy)).mono (by decide) (by decide)⟩⟩
theorem main_1_1 : Claimed_1_1 := comes_1 fun _ _ _ _ _ _ h hF => ⟨h.1, hF⟩
theorem main_1_2 : Claimed_1_2 := comes_1 fun _ _ _ _ _ _ h hF => ⟨h.2.1, hF⟩
end Jvm.Pilot.@@N@@
namespace Jvm.Pilot.@@N@@
open Jvm Jvm.ClassFile Sem Op Lib Jvm.Free Jvm.Stand Jvm.Pilot.@@N@@.Jvm.D
/-! MADE BY PROGRAM (witnessworld.py) out of the Statement's table words and the real class files: 9 classes; the members and pool entries that the words name. The judged class is class 1, her method 1. -/
namespace start1
open Jvm.ClassFile
def u (s : String) : CpInfo := .utf8 (stringToUtf16 s)
/-- a pool by its gaps: so many unusable entries, then the entry; so many at the end -/
def gap : Nat → List CpInfo → List CpInfo
  | 0, r => r
  | n + 1, r => .unusable :: gap n r
def poolList (es : List (Nat × CpInfo)) (last : Nat) : List CpInfo := es.foldr (fun e r => gap e.1 (e.2 :: r)) (gap last [])
def pool (es : List (Nat × CpInfo)) (last : Nat) : Array CpInfo := ⟨poolList es last⟩
def fileOf (pool : Array CpInfo) (this : Nat) (attrs : Array Attribute := #[]) (ms : Array MethodInfo := #[]) (fl : Nat := 33) (sup : Nat := 0) (ifs : Array Nat := #[]) (fds : Array FieldInfo := #[]) : ClassFile where
  minorVersion := 0
  majorVersion := 65
  constantPool := pool
  accessFlags := fl
  thisClass := this
  superClass := sup
  interfaces := ifs
  fields := fds
  methods := ms
  attributes := attrs
def plain (name : String) (sup : Option ClassId) : Class where
  name := name
  kind := .ordinary
  loader := none
  accessFlags := 33
  super := sup
  interfaces := #[]
  cf := none
  fields := #[]
  methods := #[]
  instanceTypes := #[]
  staticTypes := #[]
  resolved := #[]
  callSites := []
  init := .initialized
  statics := none
  mirror := none

def pool0 : Array CpInfo := pool [(5, u "<init>"), (0, u "()V"), (1, .class_ 10), (1, u "java/lang/Object")] 113

def k0m0 : Method := { name := "<init>", desc := "()V", sig := { parameters := [], returnType := none }, accessFlags := 1, code := none }
/-- java/lang/Object -/
def k0 : Class := { plain "java/lang/Object" none with
  accessFlags := 33
  interfaces := #[]
  cf := some (fileOf pool0 8 #[] #[{ accessFlags := 1, nameIndex := 5, descriptorIndex := 6, attributes := #[] }] 33 0 #[] #[])
  fields := #[]
  methods := #[k0m0]
  instanceTypes := #[]
  staticTypes := #[]
  resolved := Array.replicate 124 none
  statics := none }

def pool1 : Array CpInfo := pool [(2, .class_ 4), (1, u "java/lang/Object"), (0, u "<init>"), (0, u "()V"), (0, .integer 2147483647), (0, .methodref 9 10), (0, .class_ 11), (0, .nameAndType 12 13), (0, u "acyclon/core/EdgeSets"), (0, u "hash"), (0, u "([II)I"), (0, .integer 2654435769), (0, .methodref 16 17), (0, .class_ 18), (0, .nameAndType 19 20), (0, u "acyclon/core/EdgeSetsHashPinLaw"), (0, u "unmix"), (0, u "(I)I"), (0, .integer 2127672349), (0, .integer 2781581891), (2, u "law"), (0, u "(IIIIII)Z")] 5

def k1m0 : Method := { name := "<init>", desc := "()V", sig := { parameters := [], returnType := none }, accessFlags := 1, code := none }
def k1c1 : Code := { maxStack := 4, maxLocals := 14, code := code, exceptionTable := #[], attributes := #[] }
def k1m1 : Method := { name := "law", desc := "(IIIIII)Z", sig := { parameters := [.int, .int, .int, .int, .int, .int], returnType := some .boolean }, accessFlags := 9, code := some k1c1 }
def k1c2 : Code := { maxStack := 4, maxLocals := 1, code := method_3_code, exceptionTable := #[], attributes := #[] }
def k1m2 : Method := { name := "unmix", desc := "(I)I", sig := { parameters := [.int], returnType := some .int }, accessFlags := 10, code := some k1c2 }
/-- acyclon/core/EdgeSetsHashPinLaw -/
def k1 : Class := { plain "acyclon/core/EdgeSetsHashPinLaw" (some 0) with
  accessFlags := 49
  interfaces := #[]
  cf := some (fileOf pool1 16 #[] #[{ accessFlags := 1, nameIndex := 5, descriptorIndex := 6, attributes := #[] }, { accessFlags := 9, nameIndex := 25, descriptorIndex := 26, attributes := #[] }, { accessFlags := 10, nameIndex := 19, descriptorIndex := 20, attributes := #[] }] 49 2 #[] #[])
  fields := #[]
  methods := #[k1m0, k1m1, k1m2]
  instanceTypes := #[]
  staticTypes := #[]
  resolved := Array.replicate 32 none
  statics := none }

def pool2 : Array CpInfo := pool [(1, .class_ 2), (0, u "acyclon/core/EdgeSets"), (1, .class_ 6), (1, u "java/lang/Object"), (0, u "<init>"), (0, u "()V"), (5, u "records"), (0, u "Lacyclon/core/IntChunks;"), (4, u "slots"), (0, u "[[J"), (1, u "[I"), (2, u "hashes"), (0, u "[[I"), (2, u "sizes"), (2, u "hash"), (0, u "([II)I"), (42, .integer 2654435769), (0, .integer 2246822507), (0, .integer 3266489909), (0, u "PART_BITS"), (0, u "I"), (2, u "PARTS"), (1, u "FIRST_SLOTS")] 15

def k2m0 : Method := { name := "<init>", desc := "()V", sig := { parameters := [], returnType := none }, accessFlags := 0, code := none }
def k2c1 : Code := { maxStack := 3, maxLocals := 4, code := prog_15_method_16_code, exceptionTable := #[], attributes := #[] }
def k2m1 : Method := { name := "hash", desc := "([II)I", sig := { parameters := [(.array .int), .int], returnType := some .int }, accessFlags := 8, code := some k2c1 }
/-- acyclon/core/EdgeSets -/
def k2 : Class := { plain "acyclon/core/EdgeSets" (some 0) with
  accessFlags := 48
  interfaces := #[]
  cf := some (fileOf pool2 1 #[] #[{ accessFlags := 0, nameIndex := 7, descriptorIndex := 8, attributes := #[] }, { accessFlags := 8, nameIndex := 33, descriptorIndex := 34, attributes := #[] }] 48 4 #[] #[{ accessFlags := 26, nameIndex := 80, descriptorIndex := 81, attributes := #[] }, { accessFlags := 26, nameIndex := 84, descriptorIndex := 81, attributes := #[] }, { accessFlags := 26, nameIndex := 86, descriptorIndex := 81, attributes := #[] }, { accessFlags := 18, nameIndex := 14, descriptorIndex := 15, attributes := #[] }, { accessFlags := 18, nameIndex := 20, descriptorIndex := 21, attributes := #[] }, { accessFlags := 18, nameIndex := 26, descriptorIndex := 27, attributes := #[] }, { accessFlags := 18, nameIndex := 30, descriptorIndex := 23, attributes := #[] }])
  fields := #[{ name := "PART_BITS", type := .int, accessFlags := 26, slot := 0, constantValue := 0 }, { name := "PARTS", type := .int, accessFlags := 26, slot := 1, constantValue := 0 }, { name := "FIRST_SLOTS", type := .int, accessFlags := 26, slot := 2, constantValue := 0 }, { name := "records", type := (.object "acyclon/core/IntChunks"), accessFlags := 18, slot := 0, constantValue := 0 }, { name := "slots", type := (.array (.array .long)), accessFlags := 18, slot := 1, constantValue := 0 }, { name := "hashes", type := (.array (.array .int)), accessFlags := 18, slot := 2, constantValue := 0 }, { name := "sizes", type := (.array .int), accessFlags := 18, slot := 3, constantValue := 0 }]
  methods := #[k2m0, k2m1]
  instanceTypes := #[(.object "acyclon/core/IntChunks"), (.array (.array .long)), (.array (.array .int)), (.array .int)]
  staticTypes := #[.int, .int, .int]
  resolved := Array.replicate 102 none
  statics := none }

def pool3 : Array CpInfo := pool [(1, u "java/lang/Cloneable"), (0, .class_ 1), (0, u "java/lang/Object"), (0, .class_ 3)] 3

/-- java/lang/Cloneable -/
def k3 : Class := { plain "java/lang/Cloneable" (some 0) with
  accessFlags := 1537
  interfaces := #[]
  cf := some (fileOf pool3 2 #[] #[] 1537 4 #[] #[])
  fields := #[]
  methods := #[]
  instanceTypes := #[]
  staticTypes := #[]
  resolved := Array.replicate 8 none
  statics := none }

def pool4 : Array CpInfo := pool [(1, u "java/io/Serializable"), (0, .class_ 1), (0, u "java/lang/Object"), (0, .class_ 3)] 3

/-- java/io/Serializable -/
def k4 : Class := { plain "java/io/Serializable" (some 0) with
  accessFlags := 1537
  interfaces := #[]
  cf := some (fileOf pool4 2 #[] #[] 1537 4 #[] #[])
  fields := #[]
  methods := #[]
  instanceTypes := #[]
  staticTypes := #[]
  resolved := Array.replicate 8 none
  statics := none }

/-- the primitive byte -/
def k5 : Class := { plain "byte" none with kind := .primitive 'B', accessFlags := 0x411 }
/-- [B -/
def k6 : Class := { plain "[B" (some 0) with kind := .array 5 .byte, interfaces := #[3, 4], accessFlags := 1041 }

/-- the primitive int -/
def k7 : Class := { plain "int" none with kind := .primitive 'I', accessFlags := 0x411 }
/-- [I -/
def k8 : Class := { plain "[I" (some 0) with kind := .array 7 .int, interfaces := #[3, 4], accessFlags := 1041 }

def heap : Heap := #[]
def classes : Array Class := #[k0, k1, k2, k3, k4, k5, k6, k7, k8]
def interned : List (Array UInt16 × Addr) := []
def slotsUsed : Nat := 0
def theMethod : MethodId := ⟨1, 1⟩
def args0 : Array Value := #[.int 5, .int 5, .int 5, .int 5, .int 5, .int 5]
def aboutOver (below : List Frame) : State where
  vm := { classes := classes, interned := interned.toArray }
  heap := heap
  slotsUsed := slotsUsed
  threads := #[{ frames := .invoking theMethod args0 :: below }]
def below0 : List Frame := [.native { method := ⟨0, 0⟩, args := #[] }]
def about1 : State := aboutOver below0
def p0 : Program := .bare "" "" ""
def e0 : Env := launch0.env 0 0 0
theorem w_frames : about1.frames = Frame.invoking theMethod args0 :: below0 := rfl
set_option maxRecDepth 65536 in
theorem w_args : argsFit about1.vm theMethod args0 = true := by decide +kernel
set_option maxRecDepth 65536 in
theorem w_heap : heapFits about1 = true := by decide +kernel
set_option maxRecDepth 65536 in
theorem w_runnable : about1.curStatus? = some .runnable := by decide +kernel
set_option maxRecDepth 65536 in
theorem w_alone : about1.alone = true := by decide +kernel
set_option maxRecDepth 65536 in
theorem w_named : about1.methodNamed? x = some theMethod := by decide +kernel
set_option maxRecDepth 65536 in
theorem w_hears : about1.hears theMethod below0 = true := by decide +kernel
set_option maxRecDepth 65536 in
theorem w_ripe : about1.ripe theMethod args0 below0 = true := by decide +kernel
theorem w_running : about1.status = .running := rfl
set_option maxRecDepth 65536 in
theorem w_room : about1.hasRoom e0.platform room_1 = true :=
  launch0.hasRoom_least _ room_1 (by decide +kernel) (by decide +kernel) (by decide +kernel) (by decide +kernel) (by decide +kernel) (by decide +kernel)
theorem allAtoms_all (ts : List Jvm.Cond) (a : Array Jvm.Value) (st : Jvm.State) : (allAtoms ts).before a st = ts.all (fun c => c.before a st) := by
  induction ts with
  | nil => rfl
  | cons c t ih =>
    show (Jvm.Cond.and c (allAtoms t)).before a st = _
    rw [Jvm.Cond.before_and, ih, List.all_cons]
def words1 : List Jvm.Cond := Jvm.Cond.code x code maxLocals ret :: tables_1
/-- a 'code' word, met by the world's own term for the bytes: nothing is compared byte by byte -/
theorem code_word {y : MethodName} {bytes : ByteArray} {mx : Nat} {rt : Option FieldType} {a : Array Value} {s : State} {m : MethodId} {meth : Method} {c : Code} (h1 : s.methodNamed? y = some m) (h2 : s.vm.method? m = some meth) (h3 : meth.code = some c) (h4 : c.code = bytes)
    (h5 : (c.maxLocals == mx && c.exceptionTable.isEmpty && decide (c.maxStack ≤ mostOperands) && decide (meth.sig.returnType = rt) && !meth.locks && decide (parseMethodDescriptor y.desc = some meth.sig)) = true) : (Jvm.Cond.code y bytes mx rt).before a s = true := by
  simp only [Bool.and_eq_true, beq_iff_eq, Bool.not_eq_true', decide_eq_true_eq] at h5
  obtain ⟨⟨⟨⟨⟨g1, g2⟩, g3⟩, g4⟩, g5⟩, g6⟩ := h5
  simp [Cond.before, Cond.holds, Cond.value, h1, h2, h3, h4, g1, g2, g3, g4, g5, g6]
def isCode : Jvm.Cond → Bool
  | .code _ _ _ _ => true
  | _ => false
theorem all_split {L : List Jvm.Cond} {P : Jvm.Cond → Bool} (h1 : L.all (fun c => isCode c || P c) = true) (h2 : ∀ c ∈ L.filter isCode, P c = true) : L.all P = true := by
  refine List.all_eq_true.mpr fun c hc => ?_
  have h := List.all_eq_true.mp h1 c hc
  rcases Bool.eq_false_or_eq_true (isCode c) with hi | hi
  · exact h2 c (List.mem_filter.mpr ⟨hc, hi⟩)
  · simpa [hi] using h
set_option maxRecDepth 65536 in
theorem w_c0 : (Jvm.Cond.code x code maxLocals ret).before args0 about1 = true := code_word (m := ⟨1, 1⟩) (meth := k1m1) (c := k1c1) (by decide +kernel) rfl rfl rfl (by decide +kernel)
set_option maxRecDepth 65536 in
theorem w_c1 : (Jvm.Cond.code ({ cls := "acyclon/core/EdgeSets", name := "hash", desc := "([II)I" } : Jvm.MethodName) prog_15_method_16_code (4 : Nat) (Option.some Jvm.ClassFile.FieldType.int)).before args0 about1 = true := code_word (m := ⟨2, 1⟩) (meth := k2m1) (c := k2c1) (by decide +kernel) rfl rfl rfl (by decide +kernel)
set_option maxRecDepth 65536 in
theorem w_c2 : (Jvm.Cond.code ({ cls := "acyclon/core/EdgeSetsHashPinLaw", name := "unmix", desc := "(I)I" } : Jvm.MethodName) method_3_code (1 : Nat) (Option.some Jvm.ClassFile.FieldType.int)).before args0 about1 = true := code_word (m := ⟨1, 2⟩) (meth := k1m2) (c := k1c2) (by decide +kernel) rfl rfl rfl (by decide +kernel)
def codes1 : List Jvm.Cond := [Jvm.Cond.code x code maxLocals ret, Jvm.Cond.code ({ cls := "acyclon/core/EdgeSets", name := "hash", desc := "([II)I" } : Jvm.MethodName) prog_15_method_16_code (4 : Nat) (Option.some Jvm.ClassFile.FieldType.int), Jvm.Cond.code ({ cls := "acyclon/core/EdgeSetsHashPinLaw", name := "unmix", desc := "(I)I" } : Jvm.MethodName) method_3_code (1 : Nat) (Option.some Jvm.ClassFile.FieldType.int)]
set_option maxRecDepth 65536 in
theorem codes_eq : words1.filter isCode = codes1 := rfl
theorem w_codes : ∀ c ∈ words1.filter isCode, c.before args0 about1 = true := by
  rw [codes_eq]
  intro c hc
  simp only [codes1, List.mem_cons, List.not_mem_nil, or_false] at hc
  rcases hc with rfl | rfl | rfl
  · exact w_c0
  · exact w_c1
  · exact w_c2
set_option maxRecDepth 65536 in
theorem w_t1 : words1.all (fun c => isCode c || c.before args0 about1) = true := by decide +kernel
theorem w_tables : (allAtoms (Jvm.Cond.code x code maxLocals ret :: tables_1)).before args0 about1 = true := by
  rw [allAtoms_all]
  show words1.all (fun c => c.before args0 about1) = true
  refine all_split ?_ w_codes
  rw [w_t1]
set_option maxRecDepth 65536 in
theorem w_case : (Jvm.Cond.and given_1 narrow_1).before args0 about1 = true := by decide +kernel
theorem w_applies : (headSpec (Jvm.Cond.code x code maxLocals ret :: tables_1) room_1).applies x e0.platform about1 = true :=
  (Spec.applies_iff w_frames).mpr ⟨w_running, w_runnable, w_alone, w_named, w_hears, w_ripe, w_room, w_tables⟩
theorem atStart : AtStart classFile x code maxLocals ret World_1 tables_1 room_1 Calls_1 rest_1 Pre_1 launch0 p0 e0 about1 theMethod args0 below0 :=
  ⟨lists_1, trivial, launch0.admits_env _ _ _, launch0.least_env, fairChoices_fair.cas, fairChoices_fair.clock, w_frames, w_args, w_heap, w_applies, trivial, trivial, w_case⟩
end start1
theorem witness_1 : WitnessClaimed_1 := ⟨start1.p0, start1.e0, start1.about1, start1.theMethod, start1.args0, start1.below0, start1.atStart⟩
end Jvm.Pilot.@@N@@
