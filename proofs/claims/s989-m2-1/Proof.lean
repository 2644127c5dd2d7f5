import JvmDerived
import JvmDerived.Pilot.@@N@@Statement
import JvmDerived.Pilot.@@N@@Code
set_option linter.unusedVariables false
set_option linter.unusedSimpArgs false
namespace Jvm.Pilot.@@N@@
open Jvm Jvm.ClassFile Sem Op Lib Jvm.Free Jvm.Stand Jvm.LawKit Jvm.RoadKit Bundle Jvm.Pilot.@@N@@.Jvm.D
section Layer
variable {p : Program} {l : Launch} {e : Env} {R : Room} {s : State} {m : MethodId} {args : Array Value} {below : List Frame} {meth : Method} {c : Code} {T : State} {locs : List Loc} {cells slots : Nat} {Q : Option Value → Heap → List Loc → Prop} {K N : Nat} {pc n : Nat} {Ls : Array Slot} {rest st : List Value} {Z : State} {a0 : Array Value} {h : Heap}
/-- from st on the invocation ends as Q says -/
def Goes (p : Program) (e : Env) (below : List Frame) (s : State) (Q : Option Value → Heap → List Loc → Prop) (K N : Nat) (st : State) : Prop :=
  ∃ s₂ o, Steps p.tables e below st s₂ ∧ s₂.status = .running ∧ Ended s₂ below o ∧ ∃ v L, o = .returned v ∧ Q v s₂.heap L ∧ FrameEnd s o s₂ L K N
theorem Goes.via {st st' : State} (g : Goes p e below s Q K N st') (h : ∀ t, Steps p.tables e below st' t → Steps p.tables e below st t) : Goes p e below s Q K N st := by
  obtain ⟨s₂, o, h1, r⟩ := g
  exact ⟨s₂, o, h _ h1, r⟩
/-- a body's contract -/
def Does (l : Launch) (Z : State) (y : MethodName) (bytes : ByteArray) (maxL : Nat) (ret : Option FieldType) (ws : List Jvm.Cond) (rm : Room) (as : Array Value) (h : Heap) (Q : Option Value → Heap → List Loc → Prop) : Prop :=
  MetFree l y (head1 (Jvm.Cond.code y bytes maxL ret :: ws) rm) (fun a U => a = as ∧ Z.Warmed39 U.vm ∧ U.heap = h) (fun _ _ _ _ _ => True) (fun _ U o U' => ∃ v L, o = .returned v ∧ Q v U'.heap L ∧ FrameEnd U o U' L rm.cells rm.slots)
theorem Does.of {y : MethodName} {bytes : ByteArray} {maxL : Nat} {ret : Option FieldType} {ws : List Jvm.Cond} {rm : Room} {as : Array Value} (hpl : plainFor y = true)
    (body : ∀ (p : Program) (e : Env) (s : State) (m : MethodId) (below : List Frame) (meth : Method) (c : Code) (T : State), p.tables.exec = Jvm.exec → c.code = bytes → c.maxLocals = maxL → s.vm.findClass y.cls = some m.cls → meth.name = y.name → meth.sig.returnType = ret → meth.locks = false → Z.Warmed39 s.vm → Stand p l e rm s m as below meth c T [] 0 0 → T.heap = h → Goes p e below s Q rm.cells rm.slots (T.setTop (entryFrame m as maxL))) : Does l Z y bytes maxL ret ws rm as h Q := by
  refine MetFree.of_bodySF hpl hisR ?_
  intro p e s m args below meth c s₁ Bd hml0 hP hK
  obtain ⟨rfl, hZ, hh⟩ := hP
  have X0 : Stand p l e rm s m args below meth c s₁ [] 0 0 := Stand.of_body Bd
  exact body p e s m below meth c s₁ Bd.exec Bd.bytes hml0 (findClass_of_methodNamed Bd.named) (name_of_methodNamed Bd.named Bd.method).1 Bd.returns Bd.notSynchronized hZ X0 (by rw [← hh, Bd.state]; rfl)
theorem o_entry {as : Array Value} {maxL : Nat} (q : entryFrame m as maxL = mkF m 0 Ls []) (g : Goes p e below s Q K N (T.setTop (mkF m 0 Ls []))) : Goes p e below s Q K N (T.setTop (entryFrame m as maxL)) := q ▸ g
theorem o_iload (X : Stand p l e R s m args below meth c T locs cells slots) (hx : p.tables.exec = Jvm.exec) {j : Nat} {v : Int32} (hd : decode c.code pc = .ok (.iload j, 2)) (hl : Ls[j]? = some (.val (.int v))) (hn : pc + 2 = n) (g : Goes p e below s Q K N (T.setTop (mkF m n Ls (.int v :: st)))) : Goes p e below s Q K N (T.setTop (mkF m pc Ls st)) := by
  subst hn
  exact g.via fun t k => XS.iload X.here hx rfl hd hl k
theorem o_iloadN (X : Stand p l e R s m args below meth c T locs cells slots) (hx : p.tables.exec = Jvm.exec) {j : Fin 4} {v : Int32} (hd : decode c.code pc = .ok (.iload_n j, 1)) (hl : Ls[j.val]? = some (.val (.int v))) (hn : pc + 1 = n) (g : Goes p e below s Q K N (T.setTop (mkF m n Ls (.int v :: st)))) : Goes p e below s Q K N (T.setTop (mkF m pc Ls st)) := by
  subst hn
  exact g.via fun t k => XS.iloadN X.here hx rfl hd hl k
theorem o_lload (X : Stand p l e R s m args below meth c T locs cells slots) (hx : p.tables.exec = Jvm.exec) {j : Nat} {v : Int64} (hd : decode c.code pc = .ok (.lload j, 2)) (hl : Ls[j]? = some (.val (.long v))) (hn : pc + 2 = n) (g : Goes p e below s Q K N (T.setTop (mkF m n Ls (.long v :: st)))) : Goes p e below s Q K N (T.setTop (mkF m pc Ls st)) := by
  subst hn
  exact g.via fun t k => XS.lload X.here hx rfl hd hl k
theorem o_lloadN (X : Stand p l e R s m args below meth c T locs cells slots) (hx : p.tables.exec = Jvm.exec) {j : Fin 4} {v : Int64} (hd : decode c.code pc = .ok (.lload_n j, 1)) (hl : Ls[j.val]? = some (.val (.long v))) (hn : pc + 1 = n) (g : Goes p e below s Q K N (T.setTop (mkF m n Ls (.long v :: st)))) : Goes p e below s Q K N (T.setTop (mkF m pc Ls st)) := by
  subst hn
  exact g.via fun t k => XS.lloadN X.here hx rfl hd hl k
theorem o_aload (X : Stand p l e R s m args below meth c T locs cells slots) (hx : p.tables.exec = Jvm.exec) {j : Nat} {v : Value} (hd : decode c.code pc = .ok (.aload j, 2)) (hl : Ls[j]? = some (.val v)) (hv : v.isRef = true) (hn : pc + 2 = n) (g : Goes p e below s Q K N (T.setTop (mkF m n Ls (v :: st)))) : Goes p e below s Q K N (T.setTop (mkF m pc Ls st)) := by
  subst hn
  exact g.via fun t k => XS.aload X.here hx rfl hd hl hv k
theorem o_aloadN (X : Stand p l e R s m args below meth c T locs cells slots) (hx : p.tables.exec = Jvm.exec) {j : Fin 4} {v : Value} (hd : decode c.code pc = .ok (.aload_n j, 1)) (hl : Ls[j.val]? = some (.val v)) (hv : v.isRef = true) (hn : pc + 1 = n) (g : Goes p e below s Q K N (T.setTop (mkF m n Ls (v :: st)))) : Goes p e below s Q K N (T.setTop (mkF m pc Ls st)) := by
  subst hn
  exact g.via fun t k => XS.aloadN X.here hx rfl hd hl hv k
theorem o_istore (X : Stand p l e R s m args below meth c T locs cells slots) (hx : p.tables.exec = Jvm.exec) {j : Nat} {v : Int32} {Ls' : Array Slot} (hd : decode c.code pc = .ok (.istore j, 2)) (hl : storeLocals Ls j (.int v) = some Ls') (hn : pc + 2 = n) (g : Goes p e below s Q K N (T.setTop (mkF m n Ls' rest))) : Goes p e below s Q K N (T.setTop (mkF m pc Ls (.int v :: rest))) := by
  subst hn
  exact g.via fun t k => XS.istore X.here hx rfl hd rfl hl k
theorem o_istoreN (X : Stand p l e R s m args below meth c T locs cells slots) (hx : p.tables.exec = Jvm.exec) {j : Fin 4} {v : Int32} {Ls' : Array Slot} (hd : decode c.code pc = .ok (.istore_n j, 1)) (hl : storeLocals Ls j.val (.int v) = some Ls') (hn : pc + 1 = n) (g : Goes p e below s Q K N (T.setTop (mkF m n Ls' rest))) : Goes p e below s Q K N (T.setTop (mkF m pc Ls (.int v :: rest))) := by
  subst hn
  exact g.via fun t k => XS.istoreN X.here hx rfl hd rfl hl k
theorem o_lstore (X : Stand p l e R s m args below meth c T locs cells slots) (hx : p.tables.exec = Jvm.exec) {j : Nat} {v : Int64} {Ls' : Array Slot} (hd : decode c.code pc = .ok (.lstore j, 2)) (hl : storeLocals Ls j (.long v) = some Ls') (hn : pc + 2 = n) (g : Goes p e below s Q K N (T.setTop (mkF m n Ls' rest))) : Goes p e below s Q K N (T.setTop (mkF m pc Ls (.long v :: rest))) := by
  subst hn
  exact g.via fun t k => XS.lstore X.here hx rfl hd rfl hl k
theorem o_lstoreN (X : Stand p l e R s m args below meth c T locs cells slots) (hx : p.tables.exec = Jvm.exec) {j : Fin 4} {v : Int64} {Ls' : Array Slot} (hd : decode c.code pc = .ok (.lstore_n j, 1)) (hl : storeLocals Ls j.val (.long v) = some Ls') (hn : pc + 1 = n) (g : Goes p e below s Q K N (T.setTop (mkF m n Ls' rest))) : Goes p e below s Q K N (T.setTop (mkF m pc Ls (.long v :: rest))) := by
  subst hn
  exact g.via fun t k => XS.lstoreN X.here hx rfl hd rfl hl k
theorem o_astore (X : Stand p l e R s m args below meth c T locs cells slots) (hx : p.tables.exec = Jvm.exec) {j : Nat} {v : Value} {Ls' : Array Slot} (hd : decode c.code pc = .ok (.astore j, 2)) (hv : v.isRef = true) (hl : storeLocals Ls j v = some Ls') (hn : pc + 2 = n) (g : Goes p e below s Q K N (T.setTop (mkF m n Ls' rest))) : Goes p e below s Q K N (T.setTop (mkF m pc Ls (v :: rest))) := by
  subst hn
  exact g.via fun t k => XS.astore X.here hx rfl hd rfl hv hl k
theorem o_astoreN (X : Stand p l e R s m args below meth c T locs cells slots) (hx : p.tables.exec = Jvm.exec) {j : Fin 4} {v : Value} {Ls' : Array Slot} (hd : decode c.code pc = .ok (.astore_n j, 1)) (hv : v.isRef = true) (hl : storeLocals Ls j.val v = some Ls') (hn : pc + 1 = n) (g : Goes p e below s Q K N (T.setTop (mkF m n Ls' rest))) : Goes p e below s Q K N (T.setTop (mkF m pc Ls (v :: rest))) := by
  subst hn
  exact g.via fun t k => XS.astoreN X.here hx rfl hd rfl hv hl k
theorem o_iinc (X : Stand p l e R s m args below meth c T locs cells slots) (hx : p.tables.exec = Jvm.exec) {j : Nat} {cst : Int} {x w : Int32} {Ls' : Array Slot} (hd : decode c.code pc = .ok (.iinc j cst, 3)) (hl : Ls[j]? = some (.val (.int x))) (hw : x + Int32.ofInt cst = w) (hl' : storeLocals Ls j (.int w) = some Ls') (hn : pc + 3 = n) (g : Goes p e below s Q K N (T.setTop (mkF m n Ls' st))) : Goes p e below s Q K N (T.setTop (mkF m pc Ls st)) := by
  subst hn
  exact g.via fun t k => XS.iinc X.here hx rfl hd hl (by rw [hw]; exact hl') k
theorem o_iconst (X : Stand p l e R s m args below meth c T locs cells slots) (hx : p.tables.exec = Jvm.exec) {i : Int} {v : Int32} (hd : decode c.code pc = .ok (.iconst i, 1)) (hv : Int32.ofInt i = v) (hn : pc + 1 = n) (g : Goes p e below s Q K N (T.setTop (mkF m n Ls (.int v :: st)))) : Goes p e below s Q K N (T.setTop (mkF m pc Ls st)) := by
  subst hn hv
  exact g.via fun t k => XS.iconst X.here hx rfl hd k
theorem o_bipush (X : Stand p l e R s m args below meth c T locs cells slots) (hx : p.tables.exec = Jvm.exec) {i : Int} {v : Int32} (hd : decode c.code pc = .ok (.bipush i, 2)) (hv : (Int8.ofInt i).toInt32 = v) (hn : pc + 2 = n) (g : Goes p e below s Q K N (T.setTop (mkF m n Ls (.int v :: st)))) : Goes p e below s Q K N (T.setTop (mkF m pc Ls st)) := by
  subst hn hv
  exact g.via fun t k => XS.bipush X.here hx rfl hd k
theorem o_sipush (X : Stand p l e R s m args below meth c T locs cells slots) (hx : p.tables.exec = Jvm.exec) {i : Int} {v : Int32} (hd : decode c.code pc = .ok (.sipush i, 3)) (hv : (Int16.ofInt i).toInt32 = v) (hn : pc + 3 = n) (g : Goes p e below s Q K N (T.setTop (mkF m n Ls (.int v :: st)))) : Goes p e below s Q K N (T.setTop (mkF m pc Ls st)) := by
  subst hn hv
  exact g.via fun t k => XS.sipush X.here hx rfl hd k
theorem o_lconst (X : Stand p l e R s m args below meth c T locs cells slots) (hx : p.tables.exec = Jvm.exec) {j : Fin 2} {v : Int64} (hd : decode c.code pc = .ok (.lconst j, 1)) (hv : Int64.ofNat j = v) (hn : pc + 1 = n) (g : Goes p e below s Q K N (T.setTop (mkF m n Ls (.long v :: st)))) : Goes p e below s Q K N (T.setTop (mkF m pc Ls st)) := by
  subst hn hv
  exact g.via fun t k => XS.lconst X.here hx rfl hd k
theorem o_aconst_null (X : Stand p l e R s m args below meth c T locs cells slots) (hx : p.tables.exec = Jvm.exec)  (hd : decode c.code pc = .ok (.aconst_null, 1)) (hn : pc + 1 = n) (g : Goes p e below s Q K N (T.setTop (mkF m n Ls (.null :: st)))) : Goes p e below s Q K N (T.setTop (mkF m pc Ls st)) := by
  subst hn
  exact g.via fun t k => XS.aconstNull X.here hx rfl hd k
theorem o_ldc (X : Stand p l e R s m args below meth c T locs cells slots) (hx : p.tables.exec = Jvm.exec)  (hZ : Z.Warmed39 s.vm) {own : String} {index : Nat} {v : Int32} (hown : s.vm.findClass own = some m.cls) (w : (Jvm.Cond.constant own index v).before a0 Z = true) (hd : decode c.code pc = .ok (.ldc index, 2)) (hn : pc + 2 = n) (g : Goes p e below s Q K N (T.setTop (mkF m n Ls (.int v :: st)))) : Goes p e below s Q K N (T.setTop (mkF m pc Ls st)) := by
  subst hn
  exact g.via fun t k => X.ldcInt hx hown (mvT hZ w) (g := mkF m pc Ls st) rfl hd t k
theorem o_ldc_w (X : Stand p l e R s m args below meth c T locs cells slots) (hx : p.tables.exec = Jvm.exec)  (hZ : Z.Warmed39 s.vm) {own : String} {index : Nat} {v : Int32} (hown : s.vm.findClass own = some m.cls) (w : (Jvm.Cond.constant own index v).before a0 Z = true) (hd : decode c.code pc = .ok (.ldc_w index, 3)) (hn : pc + 3 = n) (g : Goes p e below s Q K N (T.setTop (mkF m n Ls (.int v :: st)))) : Goes p e below s Q K N (T.setTop (mkF m pc Ls st)) := by
  subst hn
  exact g.via fun t k => X.ldcWInt hx hown (mvT hZ w) (g := mkF m pc Ls st) rfl hd t k
theorem o_ldc2_w (X : Stand p l e R s m args below meth c T locs cells slots) (hx : p.tables.exec = Jvm.exec)  (hZ : Z.Warmed39 s.vm) {own : String} {index : Nat} {v : Int64} (hown : s.vm.findClass own = some m.cls) (w : (Jvm.Cond.constantLong own index v).before a0 Z = true) (hd : decode c.code pc = .ok (.ldc2_w index, 3)) (hn : pc + 3 = n) (g : Goes p e below s Q K N (T.setTop (mkF m n Ls (.long v :: st)))) : Goes p e below s Q K N (T.setTop (mkF m pc Ls st)) := by
  subst hn
  exact g.via fun t k => X.ldc2Long hx hown (mvT hZ w) (g := mkF m pc Ls st) rfl hd t k
theorem o_iadd (X : Stand p l e R s m args below meth c T locs cells slots) (hx : p.tables.exec = Jvm.exec) {x y v : Int32} (hd : decode c.code pc = .ok (.iadd, 1)) (hv : x + y = v) (hn : pc + 1 = n) (g : Goes p e below s Q K N (T.setTop (mkF m n Ls (.int v :: rest)))) : Goes p e below s Q K N (T.setTop (mkF m pc Ls (.int y :: .int x :: rest))) := by
  subst hn hv
  exact g.via fun t k => XS.iadd X.here hx rfl hd rfl k
theorem o_isub (X : Stand p l e R s m args below meth c T locs cells slots) (hx : p.tables.exec = Jvm.exec) {x y v : Int32} (hd : decode c.code pc = .ok (.isub, 1)) (hv : x - y = v) (hn : pc + 1 = n) (g : Goes p e below s Q K N (T.setTop (mkF m n Ls (.int v :: rest)))) : Goes p e below s Q K N (T.setTop (mkF m pc Ls (.int y :: .int x :: rest))) := by
  subst hn hv
  exact g.via fun t k => XS.isub X.here hx rfl hd rfl k
theorem o_imul (X : Stand p l e R s m args below meth c T locs cells slots) (hx : p.tables.exec = Jvm.exec) {x y v : Int32} (hd : decode c.code pc = .ok (.imul, 1)) (hv : x * y = v) (hn : pc + 1 = n) (g : Goes p e below s Q K N (T.setTop (mkF m n Ls (.int v :: rest)))) : Goes p e below s Q K N (T.setTop (mkF m pc Ls (.int y :: .int x :: rest))) := by
  subst hn hv
  exact g.via fun t k => XS.imul X.here hx rfl hd rfl k
theorem o_iand (X : Stand p l e R s m args below meth c T locs cells slots) (hx : p.tables.exec = Jvm.exec) {x y v : Int32} (hd : decode c.code pc = .ok (.iand, 1)) (hv : x &&& y = v) (hn : pc + 1 = n) (g : Goes p e below s Q K N (T.setTop (mkF m n Ls (.int v :: rest)))) : Goes p e below s Q K N (T.setTop (mkF m pc Ls (.int y :: .int x :: rest))) := by
  subst hn hv
  exact g.via fun t k => XS.iand X.here hx rfl hd rfl k
theorem o_ior (X : Stand p l e R s m args below meth c T locs cells slots) (hx : p.tables.exec = Jvm.exec) {x y v : Int32} (hd : decode c.code pc = .ok (.ior, 1)) (hv : x ||| y = v) (hn : pc + 1 = n) (g : Goes p e below s Q K N (T.setTop (mkF m n Ls (.int v :: rest)))) : Goes p e below s Q K N (T.setTop (mkF m pc Ls (.int y :: .int x :: rest))) := by
  subst hn hv
  exact g.via fun t k => XS.ior X.here hx rfl hd rfl k
theorem o_ixor (X : Stand p l e R s m args below meth c T locs cells slots) (hx : p.tables.exec = Jvm.exec) {x y v : Int32} (hd : decode c.code pc = .ok (.ixor, 1)) (hv : x ^^^ y = v) (hn : pc + 1 = n) (g : Goes p e below s Q K N (T.setTop (mkF m n Ls (.int v :: rest)))) : Goes p e below s Q K N (T.setTop (mkF m pc Ls (.int y :: .int x :: rest))) := by
  subst hn hv
  exact g.via fun t k => XS.ixor X.here hx rfl hd rfl k
theorem o_ladd (X : Stand p l e R s m args below meth c T locs cells slots) (hx : p.tables.exec = Jvm.exec) {x y v : Int64} (hd : decode c.code pc = .ok (.ladd, 1)) (hv : x + y = v) (hn : pc + 1 = n) (g : Goes p e below s Q K N (T.setTop (mkF m n Ls (.long v :: rest)))) : Goes p e below s Q K N (T.setTop (mkF m pc Ls (.long y :: .long x :: rest))) := by
  subst hn hv
  exact g.via fun t k => XS.ladd X.here hx rfl hd rfl k
theorem o_lsub (X : Stand p l e R s m args below meth c T locs cells slots) (hx : p.tables.exec = Jvm.exec) {x y v : Int64} (hd : decode c.code pc = .ok (.lsub, 1)) (hv : x - y = v) (hn : pc + 1 = n) (g : Goes p e below s Q K N (T.setTop (mkF m n Ls (.long v :: rest)))) : Goes p e below s Q K N (T.setTop (mkF m pc Ls (.long y :: .long x :: rest))) := by
  subst hn hv
  exact g.via fun t k => XS.lsub X.here hx rfl hd rfl k
theorem o_lmul (X : Stand p l e R s m args below meth c T locs cells slots) (hx : p.tables.exec = Jvm.exec) {x y v : Int64} (hd : decode c.code pc = .ok (.lmul, 1)) (hv : x * y = v) (hn : pc + 1 = n) (g : Goes p e below s Q K N (T.setTop (mkF m n Ls (.long v :: rest)))) : Goes p e below s Q K N (T.setTop (mkF m pc Ls (.long y :: .long x :: rest))) := by
  subst hn hv
  exact g.via fun t k => XS.lmul X.here hx rfl hd rfl k
theorem o_land (X : Stand p l e R s m args below meth c T locs cells slots) (hx : p.tables.exec = Jvm.exec) {x y v : Int64} (hd : decode c.code pc = .ok (.land, 1)) (hv : x &&& y = v) (hn : pc + 1 = n) (g : Goes p e below s Q K N (T.setTop (mkF m n Ls (.long v :: rest)))) : Goes p e below s Q K N (T.setTop (mkF m pc Ls (.long y :: .long x :: rest))) := by
  subst hn hv
  exact g.via fun t k => XS.land X.here hx rfl hd rfl k
theorem o_lor (X : Stand p l e R s m args below meth c T locs cells slots) (hx : p.tables.exec = Jvm.exec) {x y v : Int64} (hd : decode c.code pc = .ok (.lor, 1)) (hv : x ||| y = v) (hn : pc + 1 = n) (g : Goes p e below s Q K N (T.setTop (mkF m n Ls (.long v :: rest)))) : Goes p e below s Q K N (T.setTop (mkF m pc Ls (.long y :: .long x :: rest))) := by
  subst hn hv
  exact g.via fun t k => XS.lor X.here hx rfl hd rfl k
theorem o_lxor (X : Stand p l e R s m args below meth c T locs cells slots) (hx : p.tables.exec = Jvm.exec) {x y v : Int64} (hd : decode c.code pc = .ok (.lxor, 1)) (hv : x ^^^ y = v) (hn : pc + 1 = n) (g : Goes p e below s Q K N (T.setTop (mkF m n Ls (.long v :: rest)))) : Goes p e below s Q K N (T.setTop (mkF m pc Ls (.long y :: .long x :: rest))) := by
  subst hn hv
  exact g.via fun t k => XS.lxor X.here hx rfl hd rfl k
theorem o_idiv (X : Stand p l e R s m args below meth c T locs cells slots) (hx : p.tables.exec = Jvm.exec) {x y v : Int32} (hd : decode c.code pc = .ok (.idiv, 1)) (hy : y ≠ 0) (hv : x / y = v) (hn : pc + 1 = n) (g : Goes p e below s Q K N (T.setTop (mkF m n Ls (.int v :: rest)))) : Goes p e below s Q K N (T.setTop (mkF m pc Ls (.int y :: .int x :: rest))) := by
  subst hn hv
  exact g.via fun t k => XS.idiv X.here hx rfl hd rfl hy k
theorem o_irem (X : Stand p l e R s m args below meth c T locs cells slots) (hx : p.tables.exec = Jvm.exec) {x y v : Int32} (hd : decode c.code pc = .ok (.irem, 1)) (hy : y ≠ 0) (hv : x % y = v) (hn : pc + 1 = n) (g : Goes p e below s Q K N (T.setTop (mkF m n Ls (.int v :: rest)))) : Goes p e below s Q K N (T.setTop (mkF m pc Ls (.int y :: .int x :: rest))) := by
  subst hn hv
  exact g.via fun t k => iremM X hx (g := mkF m pc Ls _) rfl hd rfl hy k
theorem o_ldiv (X : Stand p l e R s m args below meth c T locs cells slots) (hx : p.tables.exec = Jvm.exec) {x y v : Int64} (hd : decode c.code pc = .ok (.ldiv, 1)) (hy : y ≠ 0) (hv : x / y = v) (hn : pc + 1 = n) (g : Goes p e below s Q K N (T.setTop (mkF m n Ls (.long v :: rest)))) : Goes p e below s Q K N (T.setTop (mkF m pc Ls (.long y :: .long x :: rest))) := by
  subst hn hv
  exact g.via fun t k => XS.ldiv X.here hx rfl hd rfl hy k
theorem o_lrem (X : Stand p l e R s m args below meth c T locs cells slots) (hx : p.tables.exec = Jvm.exec) {x y v : Int64} (hd : decode c.code pc = .ok (.lrem, 1)) (hy : y ≠ 0) (hv : x % y = v) (hn : pc + 1 = n) (g : Goes p e below s Q K N (T.setTop (mkF m n Ls (.long v :: rest)))) : Goes p e below s Q K N (T.setTop (mkF m pc Ls (.long y :: .long x :: rest))) := by
  subst hn hv
  exact g.via fun t k => XS.lrem X.here hx rfl hd rfl hy (by rw [lrem_mod]; exact k)
theorem o_ishl (X : Stand p l e R s m args below meth c T locs cells slots) (hx : p.tables.exec = Jvm.exec) {x y v : Int32} (hd : decode c.code pc = .ok (.ishl, 1)) (hv : x <<< (y &&& 31) = v) (hn : pc + 1 = n) (g : Goes p e below s Q K N (T.setTop (mkF m n Ls (.int v :: rest)))) : Goes p e below s Q K N (T.setTop (mkF m pc Ls (.int y :: .int x :: rest))) := by
  subst hn hv
  exact g.via fun t k => XS.ishl X.here hx rfl hd rfl k
theorem o_ishr (X : Stand p l e R s m args below meth c T locs cells slots) (hx : p.tables.exec = Jvm.exec) {x y v : Int32} (hd : decode c.code pc = .ok (.ishr, 1)) (hv : x >>> (y &&& 31) = v) (hn : pc + 1 = n) (g : Goes p e below s Q K N (T.setTop (mkF m n Ls (.int v :: rest)))) : Goes p e below s Q K N (T.setTop (mkF m pc Ls (.int y :: .int x :: rest))) := by
  subst hn hv
  exact g.via fun t k => XS.ishr X.here hx rfl hd rfl k
theorem o_iushr (X : Stand p l e R s m args below meth c T locs cells slots) (hx : p.tables.exec = Jvm.exec) {x y v : Int32} (hd : decode c.code pc = .ok (.iushr, 1)) (hv : (x.toUInt32 >>> (y &&& 31).toUInt32).toInt32 = v) (hn : pc + 1 = n) (g : Goes p e below s Q K N (T.setTop (mkF m n Ls (.int v :: rest)))) : Goes p e below s Q K N (T.setTop (mkF m pc Ls (.int y :: .int x :: rest))) := by
  subst hn hv
  exact g.via fun t k => XS.iushr X.here hx rfl hd rfl k
theorem o_lshl (X : Stand p l e R s m args below meth c T locs cells slots) (hx : p.tables.exec = Jvm.exec) {x v : Int64} {y : Int32} (hd : decode c.code pc = .ok (.lshl, 1)) (hv : x <<< (y &&& 0x3f).toInt64 = v) (hn : pc + 1 = n) (g : Goes p e below s Q K N (T.setTop (mkF m n Ls (.long v :: rest)))) : Goes p e below s Q K N (T.setTop (mkF m pc Ls (.int y :: .long x :: rest))) := by
  subst hn hv
  exact g.via fun t k => XS.lshl X.here hx rfl hd rfl k
theorem o_lshr (X : Stand p l e R s m args below meth c T locs cells slots) (hx : p.tables.exec = Jvm.exec) {x v : Int64} {y : Int32} (hd : decode c.code pc = .ok (.lshr, 1)) (hv : x >>> (y &&& 0x3f).toInt64 = v) (hn : pc + 1 = n) (g : Goes p e below s Q K N (T.setTop (mkF m n Ls (.long v :: rest)))) : Goes p e below s Q K N (T.setTop (mkF m pc Ls (.int y :: .long x :: rest))) := by
  subst hn hv
  exact g.via fun t k => XS.lshr X.here hx rfl hd rfl k
theorem o_lushr (X : Stand p l e R s m args below meth c T locs cells slots) (hx : p.tables.exec = Jvm.exec) {x v : Int64} {y : Int32} (hd : decode c.code pc = .ok (.lushr, 1)) (hv : (x.toUInt64 >>> (y &&& 0x3f).toInt64.toUInt64).toInt64 = v) (hn : pc + 1 = n) (g : Goes p e below s Q K N (T.setTop (mkF m n Ls (.long v :: rest)))) : Goes p e below s Q K N (T.setTop (mkF m pc Ls (.int y :: .long x :: rest))) := by
  subst hn hv
  exact g.via fun t k => XS.lushr X.here hx rfl hd rfl k
theorem o_i2l (X : Stand p l e R s m args below meth c T locs cells slots) (hx : p.tables.exec = Jvm.exec) {x : Int32} {v : Int64} (hd : decode c.code pc = .ok (.i2l, 1)) (hv : x.toInt64 = v) (hn : pc + 1 = n) (g : Goes p e below s Q K N (T.setTop (mkF m n Ls (.long v :: rest)))) : Goes p e below s Q K N (T.setTop (mkF m pc Ls (.int x :: rest))) := by
  subst hn hv
  exact g.via fun t k => XS.i2l X.here hx rfl hd rfl k
theorem o_l2i (X : Stand p l e R s m args below meth c T locs cells slots) (hx : p.tables.exec = Jvm.exec) {x : Int64} {v : Int32} (hd : decode c.code pc = .ok (.l2i, 1)) (hv : x.toInt32 = v) (hn : pc + 1 = n) (g : Goes p e below s Q K N (T.setTop (mkF m n Ls (.int v :: rest)))) : Goes p e below s Q K N (T.setTop (mkF m pc Ls (.long x :: rest))) := by
  subst hn hv
  exact g.via fun t k => XS.l2i X.here hx rfl hd rfl k
theorem o_i2b (X : Stand p l e R s m args below meth c T locs cells slots) (hx : p.tables.exec = Jvm.exec) {x : Int32} {v : Int32} (hd : decode c.code pc = .ok (.i2b, 1)) (hv : x.toInt8.toInt32 = v) (hn : pc + 1 = n) (g : Goes p e below s Q K N (T.setTop (mkF m n Ls (.int v :: rest)))) : Goes p e below s Q K N (T.setTop (mkF m pc Ls (.int x :: rest))) := by
  subst hn hv
  exact g.via fun t k => XS.i2b X.here hx rfl hd rfl k
theorem o_i2c (X : Stand p l e R s m args below meth c T locs cells slots) (hx : p.tables.exec = Jvm.exec) {x : Int32} {v : Int32} (hd : decode c.code pc = .ok (.i2c, 1)) (hv : x.toUInt32.toUInt16.toUInt32.toInt32 = v) (hn : pc + 1 = n) (g : Goes p e below s Q K N (T.setTop (mkF m n Ls (.int v :: rest)))) : Goes p e below s Q K N (T.setTop (mkF m pc Ls (.int x :: rest))) := by
  subst hn hv
  exact g.via fun t k => XS.i2c X.here hx rfl hd rfl k
theorem o_i2s (X : Stand p l e R s m args below meth c T locs cells slots) (hx : p.tables.exec = Jvm.exec) {x : Int32} {v : Int32} (hd : decode c.code pc = .ok (.i2s, 1)) (hv : x.toInt16.toInt32 = v) (hn : pc + 1 = n) (g : Goes p e below s Q K N (T.setTop (mkF m n Ls (.int v :: rest)))) : Goes p e below s Q K N (T.setTop (mkF m pc Ls (.int x :: rest))) := by
  subst hn hv
  exact g.via fun t k => XS.i2s X.here hx rfl hd rfl k
theorem o_ineg (X : Stand p l e R s m args below meth c T locs cells slots) (hx : p.tables.exec = Jvm.exec) {x : Int32} {v : Int32} (hd : decode c.code pc = .ok (.ineg, 1)) (hv : -x = v) (hn : pc + 1 = n) (g : Goes p e below s Q K N (T.setTop (mkF m n Ls (.int v :: rest)))) : Goes p e below s Q K N (T.setTop (mkF m pc Ls (.int x :: rest))) := by
  subst hn hv
  exact g.via fun t k => XS.ineg X.here hx rfl hd rfl k
theorem o_lneg (X : Stand p l e R s m args below meth c T locs cells slots) (hx : p.tables.exec = Jvm.exec) {x : Int64} {v : Int64} (hd : decode c.code pc = .ok (.lneg, 1)) (hv : -x = v) (hn : pc + 1 = n) (g : Goes p e below s Q K N (T.setTop (mkF m n Ls (.long v :: rest)))) : Goes p e below s Q K N (T.setTop (mkF m pc Ls (.long x :: rest))) := by
  subst hn hv
  exact g.via fun t k => XS.lneg X.here hx rfl hd rfl k
theorem o_lcmp (X : Stand p l e R s m args below meth c T locs cells slots) (hx : p.tables.exec = Jvm.exec) {x y : Int64} (hd : decode c.code pc = .ok (.lcmp, 1)) (hn : pc + 1 = n) (g : Goes p e below s Q K N (T.setTop (mkF m n Ls (.int (XT.cmpL x y) :: rest)))) : Goes p e below s Q K N (T.setTop (mkF m pc Ls (.long y :: .long x :: rest))) := by
  subst hn
  exact g.via fun t k => XT.lcmp X.here hx rfl hd rfl k
theorem o_dup (X : Stand p l e R s m args below meth c T locs cells slots) (hx : p.tables.exec = Jvm.exec) {v : Value} (hd : decode c.code pc = .ok (.dup, 1)) (hv : v.category = 1) (hn : pc + 1 = n) (g : Goes p e below s Q K N (T.setTop (mkF m n Ls (v :: v :: rest)))) : Goes p e below s Q K N (T.setTop (mkF m pc Ls (v :: rest))) := by
  subst hn
  exact g.via fun t k => XS.dup X.here hx rfl hd rfl hv k
theorem o_dup_x1 (X : Stand p l e R s m args below meth c T locs cells slots) (hx : p.tables.exec = Jvm.exec) {v w : Value} (hd : decode c.code pc = .ok (.dup_x1, 1)) (hv : v.category = 1) (hw : w.category = 1) (hn : pc + 1 = n) (g : Goes p e below s Q K N (T.setTop (mkF m n Ls (v :: w :: v :: rest)))) : Goes p e below s Q K N (T.setTop (mkF m pc Ls (v :: w :: rest))) := by
  subst hn
  exact g.via fun t k => XS.dupX1 X.here hx rfl hd rfl hv hw k
theorem o_dup2 (X : Stand p l e R s m args below meth c T locs cells slots) (hx : p.tables.exec = Jvm.exec) {v w : Value} (hd : decode c.code pc = .ok (.dup2, 1)) (hv : v.category = 1) (hw : w.category = 1) (hn : pc + 1 = n) (g : Goes p e below s Q K N (T.setTop (mkF m n Ls (v :: w :: v :: w :: rest)))) : Goes p e below s Q K N (T.setTop (mkF m pc Ls (v :: w :: rest))) := by
  subst hn
  exact g.via fun t k => XT.dup2 X.here hx rfl hd rfl hv hw k
theorem o_pop (X : Stand p l e R s m args below meth c T locs cells slots) (hx : p.tables.exec = Jvm.exec) {v : Value} (hd : decode c.code pc = .ok (.pop, 1)) (hv : v.category = 1) (hn : pc + 1 = n) (g : Goes p e below s Q K N (T.setTop (mkF m n Ls rest))) : Goes p e below s Q K N (T.setTop (mkF m pc Ls (v :: rest))) := by
  subst hn
  exact g.via fun t k => XS.pop X.here hx rfl hd rfl hv k
theorem o_goto (X : Stand p l e R s m args below meth c T locs cells slots) (hx : p.tables.exec = Jvm.exec) {o : Int} (hd : decode c.code pc = .ok (.goto o, 3)) (ho : 0 ≤ (pc : Int) + o) (hn : ((pc : Int) + o).toNat = n) (g : Goes p e below s Q K N (T.setTop (mkF m n Ls st))) : Goes p e below s Q K N (T.setTop (mkF m pc Ls st)) := by
  exact g.via fun t k => XS.goto X.here hx rfl rfl hd ho hn k
theorem o_ifY (X : Stand p l e R s m args below meth c T locs cells slots) (hx : p.tables.exec = Jvm.exec) {cd : ClassFile.Cond} {x : Int32} {o : Int} (hd : decode c.code pc = .ok (.ifCond cd o, 3)) (hc : ifCond.holds cd x = true) (ho : 0 ≤ (pc : Int) + o) (hn : ((pc : Int) + o).toNat = n) (g : Goes p e below s Q K N (T.setTop (mkF m n Ls rest))) : Goes p e below s Q K N (T.setTop (mkF m pc Ls (.int x :: rest))) := by
  exact g.via fun t k => XS.ifYes X.here hx rfl rfl hd rfl hc ho hn k
theorem o_ifN (X : Stand p l e R s m args below meth c T locs cells slots) (hx : p.tables.exec = Jvm.exec) {cd : ClassFile.Cond} {x : Int32} {o : Int} (hd : decode c.code pc = .ok (.ifCond cd o, 3)) (hc : ifCond.holds cd x = false) (hn : pc + 3 = n) (g : Goes p e below s Q K N (T.setTop (mkF m n Ls rest))) : Goes p e below s Q K N (T.setTop (mkF m pc Ls (.int x :: rest))) := by
  subst hn
  exact g.via fun t k => XS.ifNo X.here hx rfl hd rfl hc k
theorem o_icmpY (X : Stand p l e R s m args below meth c T locs cells slots) (hx : p.tables.exec = Jvm.exec) {cd : ClassFile.Cond} {x y : Int32} {o : Int} (hd : decode c.code pc = .ok (.if_icmp cd o, 3)) (hc : if_icmp.holds cd x y = true) (ho : 0 ≤ (pc : Int) + o) (hn : ((pc : Int) + o).toNat = n) (g : Goes p e below s Q K N (T.setTop (mkF m n Ls rest))) : Goes p e below s Q K N (T.setTop (mkF m pc Ls (.int y :: .int x :: rest))) := by
  exact g.via fun t k => XS.icmpYes X.here hx rfl rfl hd rfl hc ho hn k
theorem o_icmpN (X : Stand p l e R s m args below meth c T locs cells slots) (hx : p.tables.exec = Jvm.exec) {cd : ClassFile.Cond} {x y : Int32} {o : Int} (hd : decode c.code pc = .ok (.if_icmp cd o, 3)) (hc : if_icmp.holds cd x y = false) (hn : pc + 3 = n) (g : Goes p e below s Q K N (T.setTop (mkF m n Ls rest))) : Goes p e below s Q K N (T.setTop (mkF m pc Ls (.int y :: .int x :: rest))) := by
  subst hn
  exact g.via fun t k => XS.icmpNo X.here hx rfl hd rfl hc k
theorem o_ifnullY (X : Stand p l e R s m args below meth c T locs cells slots) (hx : p.tables.exec = Jvm.exec) {o : Int} (hd : decode c.code pc = .ok (.ifnull o, 3)) (ho : 0 ≤ (pc : Int) + o) (hn : ((pc : Int) + o).toNat = n) (g : Goes p e below s Q K N (T.setTop (mkF m n Ls rest))) : Goes p e below s Q K N (T.setTop (mkF m pc Ls (.null :: rest))) := by
  exact g.via fun t k => XS.ifnullYes X.here hx rfl rfl hd rfl ho hn k
theorem o_ifnullN (X : Stand p l e R s m args below meth c T locs cells slots) (hx : p.tables.exec = Jvm.exec) {o : Int} {a : Addr} (hd : decode c.code pc = .ok (.ifnull o, 3)) (hn : pc + 3 = n) (g : Goes p e below s Q K N (T.setTop (mkF m n Ls rest))) : Goes p e below s Q K N (T.setTop (mkF m pc Ls (.ref a :: rest))) := by
  subst hn
  exact g.via fun t k => XS.ifnullNo X.here hx rfl hd rfl k
theorem o_ifnonnullY (X : Stand p l e R s m args below meth c T locs cells slots) (hx : p.tables.exec = Jvm.exec) {o : Int} {a : Addr} (hd : decode c.code pc = .ok (.ifnonnull o, 3)) (ho : 0 ≤ (pc : Int) + o) (hn : ((pc : Int) + o).toNat = n) (g : Goes p e below s Q K N (T.setTop (mkF m n Ls rest))) : Goes p e below s Q K N (T.setTop (mkF m pc Ls (.ref a :: rest))) := by
  exact g.via fun t k => XS.ifnonnullYes X.here hx rfl rfl hd rfl ho hn k
theorem o_ifnonnullN (X : Stand p l e R s m args below meth c T locs cells slots) (hx : p.tables.exec = Jvm.exec) {o : Int} (hd : decode c.code pc = .ok (.ifnonnull o, 3)) (hn : pc + 3 = n) (g : Goes p e below s Q K N (T.setTop (mkF m n Ls rest))) : Goes p e below s Q K N (T.setTop (mkF m pc Ls (.null :: rest))) := by
  subst hn
  exact g.via fun t k => XS.ifnonnullNo X.here hx rfl hd rfl k
theorem o_acmp (X : Stand p l e R s m args below meth c T locs cells slots) (hx : p.tables.exec = Jvm.exec) {cd : ACond} {x y : Value} {o : Int} {same : Bool} (hd : decode c.code pc = .ok (.if_acmp cd o, 3)) (h1 : x.isRef = true) (h2 : y.isRef = true) (hq : decide (x = y) = same) (ho : 0 ≤ (pc : Int) + o) (hn : n = if acV cd same = true then ((pc : Int) + o).toNat else pc + 3) (g : Goes p e below s Q K N (T.setTop (mkF m n Ls rest))) : Goes p e below s Q K N (T.setTop (mkF m pc Ls (y :: x :: rest))) := by
  exact g.via fun t k => Jvm.RoadKit.acmp X hx (g := mkF m pc Ls _) rfl h1 h2 rfl hd rfl hq ho hn k
/-! the heap -/
theorem o_getfield (X : Stand p l e R s m args below meth c T locs cells slots) (hx : p.tables.exec = Jvm.exec) (hZ : Z.Warmed39 s.vm) {own R0 O nm d host : String} {index : Nat} (hown : s.vm.findClass own = some m.cls) (w : (Jvm.Cond.fieldLink own index R0 nm d).before a0 Z = true ∨ (Jvm.Cond.fieldLinkNest own index R0 nm d host).before a0 Z = true) (via : Via Z R0 O nm d) (eT : T.heap = h) {a : Addr} {v : Value} (F : Fld Z h a O nm d v)
    (hd : decode c.code pc = .ok (.getfield index, 3)) (hn : pc + 3 = n) (k : ∀ T', Stand p l e R s m args below meth c T' locs cells slots → T'.heap = h → Goes p e below s Q K N (T'.setTop (mkF m n Ls (v :: rest)))) : Goes p e below s Q K N (T.setTop (mkF m pc Ls (.ref a :: rest))) := by
  subst hn
  obtain ⟨T', X', e', st'⟩ := getF X hx hZ hown w via eT F (g := mkF m pc Ls (.ref a :: rest)) rfl rfl hd
  exact (k T' X' e').via st'
theorem o_putfield (X : Stand p l e R s m args below meth c T locs cells slots) (hx : p.tables.exec = Jvm.exec) (hZ : Z.Warmed39 s.vm) {own R0 O nm d host C : String} {index kk : Nat} {ty : FieldType} (hown : s.vm.findClass own = some m.cls) (w : (Jvm.Cond.fieldLink own index R0 nm d).before a0 Z = true ∨ (Jvm.Cond.fieldLinkNest own index R0 nm d host).before a0 Z = true) (via : Via Z R0 O nm d) (eT : T.heap = h) {a : Addr} {v old : Value} (F : Fld Z h a O nm d old) (E : Exa Z h a C)
    (L : (Jvm.Cond.lays C O nm d).before a0 Z = true ∨ ((Jvm.Cond.laysFinal C O nm d).before a0 Z = true ∧ own = O ∧ meth.name = "<init>")) (wi : (Jvm.Cond.instantiable C kk).before a0 Z = true) (hty : parseFieldDescriptor d = some ty) (hnn : narrow ty v = v) (hf : fits ty v = true) (hd : decode c.code pc = .ok (.putfield index, 3)) (hn : pc + 3 = n)
    (k : ∀ T' h', Stand p l e R s m args below meth c T' (locs ++ [⟨a, Jvm.RoadKit.slotOf Z O nm d⟩]) cells slots → T'.heap = h' → Wr h h' a (Jvm.RoadKit.slotOf Z O nm d) v → Fld Z h' a O nm d v → Exa Z h' a C → Goes p e below s Q K N (T'.setTop (mkF m n Ls rest))) : Goes p e below s Q K N (T.setTop (mkF m pc Ls (v :: .ref a :: rest))) := by
  subst hn
  obtain ⟨T', h', X', e', W, st'⟩ := putF X hx hZ hown w via eT F E L wi hty hnn hf (g := mkF m pc Ls (v :: .ref a :: rest)) rfl rfl hd
  exact (k T' h' X' e' W (F.same W) (E.wr W)).via st'
theorem o_getstatic (X : Stand p l e R s m args below meth c T locs cells slots) (hx : p.tables.exec = Jvm.exec) (hZ : Z.Warmed39 s.vm) {own R0 O nm d host : String} {index : Nat} (hown : s.vm.findClass own = some m.cls) (w : (Jvm.Cond.fieldLink own index R0 nm d).before a0 Z = true ∨ (Jvm.Cond.fieldLinkNest own index R0 nm d host).before a0 Z = true) (via : Via Z R0 O nm d) (eT : T.heap = h) {v : Value} (F : Sta Z h O nm d v)
    (hd : decode c.code pc = .ok (.getstatic index, 3)) (hn : pc + 3 = n) (k : ∀ T', Stand p l e R s m args below meth c T' locs cells slots → T'.heap = h → Goes p e below s Q K N (T'.setTop (mkF m n Ls (v :: st)))) : Goes p e below s Q K N (T.setTop (mkF m pc Ls st)) := by
  subst hn
  obtain ⟨T', X', e', st'⟩ := getS2 X hx hZ hown w via eT F (g := mkF m pc Ls st) rfl hd
  exact (k T' X' e').via st'
theorem o_new (X : Stand p l e R s m args below meth c T locs cells slots) (hx : p.tables.exec = Jvm.exec) (hZ : Z.Warmed39 s.vm) {own C : String} {index kk : Nat} (hown : s.vm.findClass own = some m.cls) (w : (Jvm.Cond.classLink own index C).before a0 Z = true) (wi : (Jvm.Cond.instantiable C kk).before a0 Z = true) (wz : (Jvm.Cond.initialized C).before a0 Z = true) (eT : T.heap = h)
    (hd : decode c.code pc = .ok (.new index, 3)) (hc : cells + 1 ≤ R.cells) (hs : slots + kk ≤ R.slots) (hn : pc + 3 = n)
    (k : ∀ T' h' a, Stand p l e R s m args below meth c T' locs (cells + 1) (slots + kk) → T'.heap = h' → a = h.size → Ext h h' → Exa Z h' a C → (∀ {O nm d : String} {ty : FieldType}, Laid Z a0 C O nm d → parseFieldDescriptor d = some ty → Fld Z h' a O nm d (defaultValue ty)) → Goes p e below s Q K N (T'.setTop (mkF m n Ls (.ref a :: st)))) : Goes p e below s Q K N (T.setTop (mkF m pc Ls st)) := by
  subst hn
  obtain ⟨T', h', X', e', E, A, D, -, st'⟩ := newO X hx hZ hown w wi wz eT (g := mkF m pc Ls st) rfl hd hc hs
  exact (k T' h' _ X' e' rfl E A D).via st'
theorem o_newarray (X : Stand p l e R s m args below meth c T locs cells slots) (hx : p.tables.exec = Jvm.exec) (hZ : Z.Warmed39 s.vm) {aty : ArrayType} (w : (Jvm.Cond.arrayClass (newarray.typeOf aty)).before a0 Z = true) (eT : T.heap = h) {z : Int32} (hd : decode c.code pc = .ok (.newarray aty, 2)) (hz : ¬ z < 0) (cap : Nat) (hcap : z.toNatClampNeg ≤ cap) (hb : cap * 8 ≤ 536870912) (hc : cells + 1 ≤ R.cells) (hs : slots + cap ≤ R.slots) (hn : pc + 2 = n)
    (k : ∀ T' h' a cA, Stand p l e R s m args below meth c T' locs (cells + 1) (slots + cap) → T'.heap = h' → a = h.size → Ext h h' → Arv Z h' a cA (newarray.typeOf aty) z [] (defaultValue (newarray.typeOf aty)) → Goes p e below s Q K N (T'.setTop (mkF m n Ls (.ref a :: rest)))) : Goes p e below s Q K N (T.setTop (mkF m pc Ls (.int z :: rest))) := by
  subst hn
  obtain ⟨T', h', cA, X', e', E, A, st'⟩ := newP X hx hZ w eT (g := mkF m pc Ls (.int z :: rest)) rfl hd rfl hz hcap hb hc hs
  exact (k T' h' _ cA X' e' rfl E (Arv.new A hz)).via st'
theorem o_arraylength (X : Stand p l e R s m args below meth c T locs cells slots) (hx : p.tables.exec = Jvm.exec) (hZ : Z.Warmed39 s.vm) (eT : T.heap = h) {a : Addr} {k : ClassId} {ty : FieldType} {z : Int32} {vs : List Value} {dv : Value} (V : Arv Z h a k ty z vs dv) (hd : decode c.code pc = .ok (.arraylength, 1)) (hn : pc + 1 = n) (g : Goes p e below s Q K N (T.setTop (mkF m n Ls (.int z :: rest)))) : Goes p e below s Q K N (T.setTop (mkF m pc Ls (.ref a :: rest))) := by
  subst hn
  obtain ⟨cl, A, -, S, M, -, -⟩ := V
  refine g.via fun t k => X.arraylength hx (by rw [eT]; exact A.1) (State.isArrayOf_alike hZ.alike A.2.1) (g := mkF m pc Ls (.ref a :: rest)) rfl rfl hd t ?_
  rw [len_of S M]; exact k
theorem o_iaload (X : Stand p l e R s m args below meth c T locs cells slots) (hx : p.tables.exec = Jvm.exec) (hZ : Z.Warmed39 s.vm) (eT : T.heap = h) {a : Addr} {k : ClassId} {z j : Int32} {vs : List Value} {dv v : Value} (V : Arv Z h a k .int z vs dv) (i : Nat) (hi : j.toNatClampNeg = i) (hj : ¬ j < 0 ∧ j < z) (hv : vs.getD i dv = v) (hd : decode c.code pc = .ok (.iaload, 1)) (hn : pc + 1 = n) (g : Goes p e below s Q K N (T.setTop (mkF m n Ls (v :: rest)))) : Goes p e below s Q K N (T.setTop (mkF m pc Ls (.int j :: .ref a :: rest))) := by
  subst hn hi
  obtain ⟨cl, A, -, S, M, H, -⟩ := V
  exact g.via fun t k => X.iaload hx (by rw [eT]; exact A.1) (State.isArrayOf_alike hZ.alike A.2.1) A.2.2 (inb_of S hj) (Has.at H (inb_of S hj) hv) (g := mkF m pc Ls (.int j :: .ref a :: rest)) rfl rfl hd t k
theorem o_laload (X : Stand p l e R s m args below meth c T locs cells slots) (hx : p.tables.exec = Jvm.exec) (hZ : Z.Warmed39 s.vm) (eT : T.heap = h) {a : Addr} {k : ClassId} {z j : Int32} {vs : List Value} {dv v : Value} (V : Arv Z h a k .long z vs dv) (i : Nat) (hi : j.toNatClampNeg = i) (hj : ¬ j < 0 ∧ j < z) (hv : vs.getD i dv = v) (hd : decode c.code pc = .ok (.laload, 1)) (hn : pc + 1 = n) (g : Goes p e below s Q K N (T.setTop (mkF m n Ls (v :: rest)))) : Goes p e below s Q K N (T.setTop (mkF m pc Ls (.int j :: .ref a :: rest))) := by
  subst hn hi
  obtain ⟨cl, A, -, S, M, H, -⟩ := V
  exact g.via fun t k => X.laload hx (by rw [eT]; exact A.1) (State.isArrayOf_alike hZ.alike A.2.1) A.2.2 (inb_of S hj) (Has.at H (inb_of S hj) hv) (g := mkF m pc Ls (.int j :: .ref a :: rest)) rfl rfl hd t k
theorem o_baload (X : Stand p l e R s m args below meth c T locs cells slots) (hx : p.tables.exec = Jvm.exec) (hZ : Z.Warmed39 s.vm) (eT : T.heap = h) {a : Addr} {k : ClassId} {z j : Int32} {vs : List Value} {dv v : Value} (V : Arv Z h a k .byte z vs dv) (i : Nat) (hi : j.toNatClampNeg = i) (hj : ¬ j < 0 ∧ j < z) (hv : vs.getD i dv = v) (hd : decode c.code pc = .ok (.baload, 1)) (hn : pc + 1 = n) (g : Goes p e below s Q K N (T.setTop (mkF m n Ls (v :: rest)))) : Goes p e below s Q K N (T.setTop (mkF m pc Ls (.int j :: .ref a :: rest))) := by
  subst hn hi
  obtain ⟨cl, A, -, S, M, H, -⟩ := V
  exact g.via fun t k => X.baloadBytes hx (by rw [eT]; exact A.1) (State.isArrayOf_alike hZ.alike A.2.1) A.2.2 (inb_of S hj) (Has.at H (inb_of S hj) hv) (g := mkF m pc Ls (.int j :: .ref a :: rest)) rfl rfl hd t k
theorem o_baloadZ (X : Stand p l e R s m args below meth c T locs cells slots) (hx : p.tables.exec = Jvm.exec) (hZ : Z.Warmed39 s.vm) (eT : T.heap = h) {a : Addr} {k : ClassId} {z j : Int32} {vs : List Value} {dv v : Value} (V : Arv Z h a k .boolean z vs dv) (i : Nat) (hi : j.toNatClampNeg = i) (hj : ¬ j < 0 ∧ j < z) (hv : vs.getD i dv = v) (hd : decode c.code pc = .ok (.baload, 1)) (hn : pc + 1 = n) (g : Goes p e below s Q K N (T.setTop (mkF m n Ls (v :: rest)))) : Goes p e below s Q K N (T.setTop (mkF m pc Ls (.int j :: .ref a :: rest))) := by
  subst hn hi
  obtain ⟨cl, A, -, S, M, H, -⟩ := V
  exact g.via fun t k => X.baloadBooleans hx (by rw [eT]; exact A.1) (State.isArrayOf_alike hZ.alike A.2.1) A.2.2 (inb_of S hj) (Has.at H (inb_of S hj) hv) (g := mkF m pc Ls (.int j :: .ref a :: rest)) rfl rfl hd t k
theorem o_aaload (X : Stand p l e R s m args below meth c T locs cells slots) (hx : p.tables.exec = Jvm.exec) (hZ : Z.Warmed39 s.vm) (eT : T.heap = h) {a : Addr} {k : ClassId} {ty : FieldType} {z j : Int32} {vs : List Value} {dv v : Value} (V : Arv Z h a k ty z vs dv) (hty : ty.isReference = true) (i : Nat) (hi : j.toNatClampNeg = i) (hj : ¬ j < 0 ∧ j < z) (hv : vs.getD i dv = v) (hd : decode c.code pc = .ok (.aaload, 1)) (hn : pc + 1 = n) (g : Goes p e below s Q K N (T.setTop (mkF m n Ls (v :: rest)))) : Goes p e below s Q K N (T.setTop (mkF m pc Ls (.int j :: .ref a :: rest))) := by
  subst hn hi
  obtain ⟨cl, A, -, S, M, H, -⟩ := V
  exact g.via fun t k => X.aaload hx (by rw [eT]; exact A.1) (State.isArrayOf_alike hZ.alike A.2.1) hty A.2.2 (inb_of S hj) (Has.at H (inb_of S hj) hv) (g := mkF m pc Ls (.int j :: .ref a :: rest)) rfl rfl hd t k
theorem o_iastore (X : Stand p l e R s m args below meth c T locs cells slots) (hx : p.tables.exec = Jvm.exec) (hZ : Z.Warmed39 s.vm) (eT : T.heap = h) {a : Addr} {k : ClassId} {z j : Int32} {x : Int32} {vs vs' : List Value} {dv w : Value} (V : Arv Z h a k .int z vs dv) (i : Nat) (hi : j.toNatClampNeg = i) (hj : ¬ j < 0 ∧ j < z) (hlen : i < vs.length) (hw : (.int x) = w) (hvs : vs.set i w = vs') (hd : decode c.code pc = .ok (.iastore, 1)) (hn : pc + 1 = n)
    (g : ∀ T' h', Stand p l e R s m args below meth c T' (locs ++ [⟨a, j.toNatClampNeg⟩]) cells slots → T'.heap = h' → Wr h h' a j.toNatClampNeg w → Arv Z h' a k .int z vs' dv → Goes p e below s Q K N (T'.setTop (mkF m n Ls rest))) : Goes p e below s Q K N (T.setTop (mkF m pc Ls (.int x :: .int j :: .ref a :: rest))) := by
  subst hn hvs hw
  obtain ⟨cl, A, q1, S, M, H, G⟩ := V
  obtain ⟨T', h', X', e', W, st'⟩ := stI X hx hZ eT A (j := j) (inb_of S hj) (g := mkF m pc Ls (.int x :: .int j :: .ref a :: rest)) rfl rfl hd
  exact (g T' h' X' e' W (Arv.set A q1 S M H G rfl W i hi hlen)).via st'
theorem o_lastore (X : Stand p l e R s m args below meth c T locs cells slots) (hx : p.tables.exec = Jvm.exec) (hZ : Z.Warmed39 s.vm) (eT : T.heap = h) {a : Addr} {k : ClassId} {z j : Int32} {x : Int64} {vs vs' : List Value} {dv w : Value} (V : Arv Z h a k .long z vs dv) (i : Nat) (hi : j.toNatClampNeg = i) (hj : ¬ j < 0 ∧ j < z) (hlen : i < vs.length) (hw : (.long x) = w) (hvs : vs.set i w = vs') (hd : decode c.code pc = .ok (.lastore, 1)) (hn : pc + 1 = n)
    (g : ∀ T' h', Stand p l e R s m args below meth c T' (locs ++ [⟨a, j.toNatClampNeg⟩]) cells slots → T'.heap = h' → Wr h h' a j.toNatClampNeg w → Arv Z h' a k .long z vs' dv → Goes p e below s Q K N (T'.setTop (mkF m n Ls rest))) : Goes p e below s Q K N (T.setTop (mkF m pc Ls (.long x :: .int j :: .ref a :: rest))) := by
  subst hn hvs hw
  obtain ⟨cl, A, q1, S, M, H, G⟩ := V
  obtain ⟨T', h', X', e', W, st'⟩ := stJ X hx hZ eT A (j := j) (inb_of S hj) (g := mkF m pc Ls (.long x :: .int j :: .ref a :: rest)) rfl rfl hd
  exact (g T' h' X' e' W (Arv.set A q1 S M H G rfl W i hi hlen)).via st'
theorem o_bastore (X : Stand p l e R s m args below meth c T locs cells slots) (hx : p.tables.exec = Jvm.exec) (hZ : Z.Warmed39 s.vm) (eT : T.heap = h) {a : Addr} {k : ClassId} {z j : Int32} {x : Int32} {vs vs' : List Value} {dv w : Value} (V : Arv Z h a k .byte z vs dv) (i : Nat) (hi : j.toNatClampNeg = i) (hj : ¬ j < 0 ∧ j < z) (hlen : i < vs.length) (hw : (.int (nar .byte x)) = w) (hvs : vs.set i w = vs') (hd : decode c.code pc = .ok (.bastore, 1)) (hn : pc + 1 = n)
    (g : ∀ T' h', Stand p l e R s m args below meth c T' (locs ++ [⟨a, j.toNatClampNeg⟩]) cells slots → T'.heap = h' → Wr h h' a j.toNatClampNeg w → Arv Z h' a k .byte z vs' dv → Goes p e below s Q K N (T'.setTop (mkF m n Ls rest))) : Goes p e below s Q K N (T.setTop (mkF m pc Ls (.int x :: .int j :: .ref a :: rest))) := by
  subst hn hvs hw
  obtain ⟨cl, A, q1, S, M, H, G⟩ := V
  obtain ⟨T', h', X', e', W, st'⟩ := stB X hx hZ eT A (j := j) (inb_of S hj) (g := mkF m pc Ls (.int x :: .int j :: .ref a :: rest)) rfl rfl hd
  exact (g T' h' X' e' W (Arv.set A q1 S M H G (fits_nar_byte x) W i hi hlen)).via st'
theorem o_bastoreZ (X : Stand p l e R s m args below meth c T locs cells slots) (hx : p.tables.exec = Jvm.exec) (hZ : Z.Warmed39 s.vm) (eT : T.heap = h) {a : Addr} {k : ClassId} {z j : Int32} {x : Int32} {vs vs' : List Value} {dv w : Value} (V : Arv Z h a k .boolean z vs dv) (i : Nat) (hi : j.toNatClampNeg = i) (hj : ¬ j < 0 ∧ j < z) (hlen : i < vs.length) (hw : (.int (nar .boolean x)) = w) (hvs : vs.set i w = vs') (hd : decode c.code pc = .ok (.bastore, 1)) (hn : pc + 1 = n)
    (g : ∀ T' h', Stand p l e R s m args below meth c T' (locs ++ [⟨a, j.toNatClampNeg⟩]) cells slots → T'.heap = h' → Wr h h' a j.toNatClampNeg w → Arv Z h' a k .boolean z vs' dv → Goes p e below s Q K N (T'.setTop (mkF m n Ls rest))) : Goes p e below s Q K N (T.setTop (mkF m pc Ls (.int x :: .int j :: .ref a :: rest))) := by
  subst hn hvs hw
  obtain ⟨cl, A, q1, S, M, H, G⟩ := V
  obtain ⟨T', h', X', e', W, st'⟩ := stZ X hx hZ eT A (j := j) (inb_of S hj) (g := mkF m pc Ls (.int x :: .int j :: .ref a :: rest)) rfl rfl hd
  exact (g T' h' X' e' W (Arv.set A q1 S M H G (fits_nar_bool x) W i hi hlen)).via st'

/-! calls -/
theorem o_initO (X : Stand p l e R s m args below meth c T locs cells slots) (hx : p.tables.exec = Jvm.exec) (hZ : Z.Warmed39 s.vm) {own : String} {idx : Nat} (hown : s.vm.findClass own = some m.cls) (w1 : (Jvm.Cond.methodLink own idx Lib.objectInit).before a0 Z = true) (w2 : (Jvm.Cond.instanceMethod Lib.objectInit).before a0 Z = true) (w3 : (Jvm.Cond.code Lib.objectInit ⟨#[0xb1]⟩ 1 none).before a0 Z = true) (eT : T.heap = h) (hsize : Ls.size = c.maxLocals) {a : Addr} (hd : decode c.code pc = .ok (.invokespecial idx, 3)) (hf : 1 ≤ R.frames) (W : Nat) (hW : (rest.map fun v => v.category).sum ≤ W) (hl : W + 12 ≤ R.locals) (hn : pc + 3 = n)
    (k : ∀ T', Stand p l e R s m args below meth c T' locs cells slots → T'.heap = h → Goes p e below s Q K N (T'.setTop (mkF m n Ls rest))) : Goes p e below s Q K N (T.setTop (mkF m pc Ls (.ref a :: rest))) := by
  subst hn
  obtain ⟨T', X', e', st'⟩ := initO X hx hZ hown w1 w2 w3 eT (g := mkF m pc Ls (.ref a :: rest)) rfl hsize rfl hd hf (W := W) (by show 2 * 0 + _ ≤ _; omega) hl
  exact (k T' X' e').via st'
theorem o_callS (X : Stand p l e R s m args below meth c T locs cells slots) (hx : p.tables.exec = Jvm.exec) (hZ : Z.Warmed39 s.vm) {own : String} {index : Nat} {y : MethodName} {bytes : ByteArray} {maxL : Nat} {ret : Option FieldType} {rm : Room} (hown : s.vm.findClass own = some m.cls) (w1 : (Jvm.Cond.methodLink own index y).before a0 Z = true) (w2 : (Jvm.Cond.static y).before a0 Z = true) (w3 : (Jvm.Cond.initialized y.cls).before a0 Z = true) (w4 : (Jvm.Cond.code y bytes maxL ret).before a0 Z = true) (hy : y.cls ≠ "java/lang/invoke/MethodHandle" ∧ y.cls ≠ "java/lang/invoke/VarHandle") (eT : T.heap = h)
    {argsL rest : List Value} {Q' : Option Value → Heap → List Loc → Prop} (hM : Does l Z y bytes maxL ret [] rm argsL.toArray h Q') (W : Nat) (hf : rm.frames + 1 ≤ R.frames) (hl : W + (maxL + 11) + rm.locals ≤ R.locals) (hc : cells + rm.cells ≤ R.cells) (hs : slots + rm.slots ≤ R.slots) (hsize : Ls.size = c.maxLocals) (hlen : ∀ sig, parseMethodDescriptor y.desc = some sig → argsL.length = sig.parameters.length) (hst : st = argsL.reverse ++ rest) (hW : (rest.map fun v => v.category).sum ≤ W) (hd : decode c.code pc = .ok (.invokestatic index, 3)) (hn : pc + 3 = n)
    (k : ∀ v T' L', Stand p l e R s m args below meth c T' (locs ++ L') (cells + rm.cells) (slots + rm.slots) → Q' v T'.heap L' → Goes p e below s Q K N (T'.setTop (mkF m n Ls (v.toList ++ rest)))) : Goes p e below s Q K N (T.setTop (mkF m pc Ls st)) := by
  subst hn
  obtain ⟨v, _, ⟨T', L, kk, nn⟩, -, X', ⟨Lc, hQ, l', y', z'⟩, st'⟩ := Jvm.LawKit.callS X hx (y := y) hown (mvT hZ w1) (mvT hZ w2) (mvT hZ w3) (mvT hZ w4) hy (backOf (W := W) hM hZ w4 w3 hf hl) (g := mkF m pc Ls st) rfl hsize (argsL := argsL) (rest := rest) hlen hst (by show 2 * 0 + _ ≤ _; omega) hd (fun _ _ => ⟨rfl, eT, hc, hs⟩)
  dsimp only [Pt.U, Pt.locs, Pt.cells, Pt.slots] at X' l' y' z' st' hQ
  subst l' y' z'
  exact (k v T' Lc X' hQ).via st'
theorem o_callN (X : Stand p l e R s m args below meth c T locs cells slots) (hx : p.tables.exec = Jvm.exec) (hZ : Z.Warmed39 s.vm) {own : String} {index : Nat} {y : MethodName} {bytes : ByteArray} {maxL : Nat} {rm : Room} (hy1 : y.name = "<init>") (hown : s.vm.findClass own = some m.cls) (w1 : (Jvm.Cond.methodLink own index y).before a0 Z = true) (w2 : (Jvm.Cond.instanceMethod y).before a0 Z = true) (w3 : (Jvm.Cond.initialized y.cls).before a0 Z = true) (w4 : (Jvm.Cond.code y bytes maxL none).before a0 Z = true) (hy : y.cls ≠ "java/lang/invoke/MethodHandle" ∧ y.cls ≠ "java/lang/invoke/VarHandle") (eT : T.heap = h)
    {a : Addr} {argsL rest : List Value} {Q' : Option Value → Heap → List Loc → Prop} (hM : Does l Z y bytes maxL none [] rm (.ref a :: argsL).toArray h Q') (W : Nat) (hf : rm.frames + 1 ≤ R.frames) (hl : W + (maxL + 11) + rm.locals ≤ R.locals) (hc : cells + rm.cells ≤ R.cells) (hs : slots + rm.slots ≤ R.slots) (hsize : Ls.size = c.maxLocals) (hlen : ∀ sig, parseMethodDescriptor y.desc = some sig → argsL.length = sig.parameters.length) (hst : st = argsL.reverse ++ .ref a :: rest) (hW : (rest.map fun v => v.category).sum ≤ W) (hd : decode c.code pc = .ok (.invokespecial index, 3)) (hn : pc + 3 = n)
    (k : ∀ v T' L', Stand p l e R s m args below meth c T' (locs ++ L') (cells + rm.cells) (slots + rm.slots) → Q' v T'.heap L' → Goes p e below s Q K N (T'.setTop (mkF m n Ls (v.toList ++ rest)))) : Goes p e below s Q K N (T.setTop (mkF m pc Ls st)) := by
  subst hn
  obtain ⟨v, _, ⟨T', L, kk, nn⟩, -, X', ⟨Lc, hQ, l', y', z'⟩, st'⟩ := X.specialBack hx (y := y) hy1 hown (mvT hZ w1) (mvT hZ w2) (mvT hZ w4) hy (backOf (W := W) hM hZ w4 w3 hf hl) (g := mkF m pc Ls st) rfl hsize (Steps.refl _) (a := a) (argsL := argsL) (rest := rest) hlen hst (by show 2 * 0 + _ ≤ _; omega) hd (fun _ _ => ⟨rfl, eT, hc, hs⟩)
  dsimp only [Pt.U, Pt.locs, Pt.cells, Pt.slots] at X' l' y' z' st' hQ
  subst l' y' z'
  exact (k v T' Lc X' hQ).via fun t q => st'.trans q
theorem o_callV (X : Stand p l e R s m args below meth c T locs cells slots) (hx : p.tables.exec = Jvm.exec) (hZ : Z.Warmed39 s.vm) {own C : String} {index : Nat} {y : MethodName} {bytes : ByteArray} {maxL : Nat} {ret : Option FieldType} {rm : Room} (hown : s.vm.findClass own = some m.cls) (w1 : (Jvm.Cond.methodLink own index y).before a0 Z = true) (w2 : (Jvm.Cond.declares y).before a0 Z = true) (w5 : (Jvm.Cond.selects C y y).before a0 Z = true) (w6 : (Jvm.Cond.instanceMethod y).before a0 Z = true) (w3 : (Jvm.Cond.initialized y.cls).before a0 Z = true) (w4 : (Jvm.Cond.code y bytes maxL ret).before a0 Z = true) (hy : y.cls ≠ "java/lang/invoke/MethodHandle" ∧ y.cls ≠ "java/lang/invoke/VarHandle") (eT : T.heap = h)
    {a : Addr} (E : Exa Z h a C) {argsL rest : List Value} {Q' : Option Value → Heap → List Loc → Prop} (hM : Does l Z y bytes maxL ret [] rm (.ref a :: argsL).toArray h Q') (W : Nat) (hf : rm.frames + 1 ≤ R.frames) (hl : W + (maxL + 11) + rm.locals ≤ R.locals) (hc : cells + rm.cells ≤ R.cells) (hs : slots + rm.slots ≤ R.slots) (hsize : Ls.size = c.maxLocals) (hlen : ∀ sig, parseMethodDescriptor y.desc = some sig → argsL.length = sig.parameters.length) (hst : st = argsL.reverse ++ .ref a :: rest) (hW : (rest.map fun v => v.category).sum ≤ W) (hd : decode c.code pc = .ok (.invokevirtual index, 3)) (hn : pc + 3 = n)
    (k : ∀ v T' L', Stand p l e R s m args below meth c T' (locs ++ L') (cells + rm.cells) (slots + rm.slots) → Q' v T'.heap L' → Goes p e below s Q K N (T'.setTop (mkF m n Ls (v.toList ++ rest)))) : Goes p e below s Q K N (T.setTop (mkF m pc Ls st)) := by
  subst hn
  obtain ⟨cq, kq, qa, qb, qc⟩ := isOf hZ eT E
  obtain ⟨v, _, ⟨T', L, kk, nn⟩, -, X', ⟨Lc, hQ, l', y', z'⟩, st'⟩ := X.virtualBack hx (y := y) (z := y) hown (mvT hZ w1) (mvT hZ w2) (notFace_of_selects (args := #[]) (mvT hZ w5)) (mvT hZ w5) (mvT hZ w6) hy (backOf (W := W) hM hZ w4 w3 hf hl) qa qc (g := mkF m pc Ls st) rfl hsize (Steps.refl _) (argsL := argsL) (rest := rest) hlen hst (by show 2 * 0 + _ ≤ _; omega) hd (fun _ _ => ⟨rfl, eT, hc, hs⟩)
  dsimp only [Pt.U, Pt.locs, Pt.cells, Pt.slots] at X' l' y' z' st' hQ
  subst l' y' z'
  exact (k v T' Lc X' hQ).via fun t q => st'.trans q
/-- a private method is the one that is selected -/
theorem o_selpriv {y : MethodName} {kk : Nat} (hy : y.cls ≠ "java/lang/invoke/MethodHandle" ∧ y.cls ≠ "java/lang/invoke/VarHandle") (hins : (Jvm.Cond.instantiable y.cls kk).before args s = true) (hpriv : (Jvm.Cond.privateMethod y).before args s = true) (hinst : (Jvm.Cond.instanceMethod y).before args s = true) : (Jvm.Cond.selects y.cls y y).before args s = true := by
  obtain ⟨c, k, hc, hk, -, hniab, -, -⟩ := Cond.instantiable_spec hins
  have hni : k.isInterface = false := (Bool.or_eq_false_iff.mp hniab).1
  obtain ⟨mk, methM, hnamed, hmethM, -, -⟩ := Cond.instanceMethod_spec hinst
  have hfound : s.methodFound? y.cls y.name y.desc = some mk := State.methodFound?_of_named hnamed hy
  have hcls : mk.cls = c := Option.some.inj ((findClass_of_methodNamed hnamed).symm.trans hc)
  have hsel : selectMethod {} s.vm c mk = .method mk := selectMethod_private hmethM (Cond.privateMethod_at hpriv mk methM hnamed hmethM)
  simp only [Cond.before, Cond.holds, Cond.value, hc, hfound, hnamed, hsel, hcls, hk]
  simp; exact hni
theorem o_callP (X : Stand p l e R s m args below meth c T locs cells slots) (hx : p.tables.exec = Jvm.exec) (hZ : Z.Warmed39 s.vm) {own C : String} {index kk : Nat} {y : MethodName} {bytes : ByteArray} {maxL : Nat} {ret : Option FieldType} {rm : Room} (hown : s.vm.findClass own = some m.cls) (w1 : (Jvm.Cond.methodLink own index y).before a0 Z = true) (w6 : (Jvm.Cond.instanceMethod y).before a0 Z = true) (w5 : (Jvm.Cond.privateMethod y).before a0 Z = true) (wi : (Jvm.Cond.instantiable y.cls kk).before a0 Z = true) (w3 : (Jvm.Cond.initialized y.cls).before a0 Z = true) (w4 : (Jvm.Cond.code y bytes maxL ret).before a0 Z = true) (hy : y.cls ≠ "java/lang/invoke/MethodHandle" ∧ y.cls ≠ "java/lang/invoke/VarHandle") (eT : T.heap = h)
    {a : Addr} (E : Exa Z h a C) {argsL rest : List Value} {Q' : Option Value → Heap → List Loc → Prop} (hM : Does l Z y bytes maxL ret [] rm (.ref a :: argsL).toArray h Q') (W : Nat) (hf : rm.frames + 1 ≤ R.frames) (hl : W + (maxL + 11) + rm.locals ≤ R.locals) (hc : cells + rm.cells ≤ R.cells) (hs : slots + rm.slots ≤ R.slots) (hsize : Ls.size = c.maxLocals) (hlen : ∀ sig, parseMethodDescriptor y.desc = some sig → argsL.length = sig.parameters.length) (hst : st = argsL.reverse ++ .ref a :: rest) (hW : (rest.map fun v => v.category).sum ≤ W) (hd : decode c.code pc = .ok (.invokevirtual index, 3)) (hn : pc + 3 = n)
    (k : ∀ v T' L', Stand p l e R s m args below meth c T' (locs ++ L') (cells + rm.cells) (slots + rm.slots) → Q' v T'.heap L' → Goes p e below s Q K N (T'.setTop (mkF m n Ls (v.toList ++ rest)))) : Goes p e below s Q K N (T.setTop (mkF m pc Ls st)) := by
  subst hn
  obtain ⟨cl, hcl, hob⟩ := E.cell
  obtain ⟨v, _, ⟨T', L, kk, nn⟩, -, X', ⟨Lc, hQ, l', y', z'⟩, st'⟩ := X.privateBack hx (y := y) hown (mvT hZ w1) (mvT hZ w6) (o_selpriv hy (mvT hZ wi) (mvP hZ w5) (mvT hZ w6)) (Cond.privateMethod_at (mvP hZ w5 (args := #[]))) (mvT hZ w4) hy (backOf (W := W) hM hZ w4 w3 hf hl) (g := mkF m pc Ls st) rfl hsize (Steps.refl _) (a := a) (by rw [eT]; exact hcl) hob (argsL := argsL) (rest := rest) hlen hst (by show 2 * 0 + _ ≤ _; omega) hd (fun _ _ => ⟨rfl, eT, hc, hs⟩)
  dsimp only [Pt.U, Pt.locs, Pt.cells, Pt.slots] at X' l' y' z' st' hQ
  subst l' y' z'
  exact (k v T' Lc X' hQ).via fun t q => st'.trans q
/-! returns -/
theorem o_retW (X : Stand p l e R s m args below meth c T locs cells slots) (hx : p.tables.exec = Jvm.exec) {t : FieldType} {w : Value} {i : Instr} (hret : meth.sig.returnType = some t) (hlk : meth.locks = false) (hnw : narrow t w = w)
    (hi : (i = .ireturn ∧ (t = .int ∨ t = .boolean ∨ t = .byte ∨ t = .char ∨ t = .short) ∧ ∃ z, w = .int z) ∨ (i = .lreturn ∧ t = .long ∧ ∃ z, w = .long z) ∨ (i = .dreturn ∧ t = .double ∧ ∃ z, w = .double z) ∨ (i = .freturn ∧ t = .float ∧ ∃ z, w = .float z) ∨ (i = .areturn ∧ t.isReference = true ∧ w.isRef = true))
    (hd : decode c.code pc = .ok (i, 1)) (hc : cells ≤ K) (hs : slots ≤ N) (eT : T.heap = h) (hQ : Q (some w) h locs) : Goes p e below s Q K N (T.setTop (mkF m pc Ls (w :: rest))) := by
  subst eT
  obtain ⟨fs, hr, hrun, hended, hW, hsame⟩ := X.leave (v := some w) (fun q => by rw [hret] at q; cases q) hlk
  exact ⟨_, _, retOut X hx hret hnw hi hd hr, hrun, hended, _, _, rfl, hQ, ⟨_, rfl⟩, hW, hsame.mono hc hs⟩
theorem o_ireturn (X : Stand p l e R s m args below meth c T locs cells slots) (hx : p.tables.exec = Jvm.exec) {x : Int32} (hret : meth.sig.returnType = some .int) (hlk : meth.locks = false) (hd : decode c.code pc = .ok (.ireturn, 1)) (hc : cells ≤ K) (hs : slots ≤ N) (eT : T.heap = h) (hQ : Q (some (.int x)) h locs) : Goes p e below s Q K N (T.setTop (mkF m pc Ls (.int x :: rest))) := o_retW X hx hret hlk rfl (Or.inl ⟨rfl, Or.inl rfl, x, rfl⟩) hd hc hs eT hQ
theorem o_lreturn (X : Stand p l e R s m args below meth c T locs cells slots) (hx : p.tables.exec = Jvm.exec) {x : Int64} (hret : meth.sig.returnType = some .long) (hlk : meth.locks = false) (hd : decode c.code pc = .ok (.lreturn, 1)) (hc : cells ≤ K) (hs : slots ≤ N) (eT : T.heap = h) (hQ : Q (some (.long x)) h locs) : Goes p e below s Q K N (T.setTop (mkF m pc Ls (.long x :: rest))) := o_retW X hx hret hlk rfl (Or.inr (Or.inl ⟨rfl, rfl, x, rfl⟩)) hd hc hs eT hQ
theorem o_areturn (X : Stand p l e R s m args below meth c T locs cells slots) (hx : p.tables.exec = Jvm.exec) {t : FieldType} {w : Value} (hret : meth.sig.returnType = some t) (hlk : meth.locks = false) (ht : t.isReference = true) (hw : w.isRef = true) (hd : decode c.code pc = .ok (.areturn, 1)) (hc : cells ≤ K) (hs : slots ≤ N) (eT : T.heap = h) (hQ : Q (some w) h locs) : Goes p e below s Q K N (T.setTop (mkF m pc Ls (w :: rest))) := o_retW X hx hret hlk (by cases t <;> first | rfl | cases ht) (Or.inr (Or.inr (Or.inr (Or.inr ⟨rfl, ht, hw⟩)))) hd hc hs eT hQ
/-- a boolean, byte, char or short: narrowed -/
theorem o_nreturn (X : Stand p l e R s m args below meth c T locs cells slots) (hx : p.tables.exec = Jvm.exec) {t : FieldType} {x : Int32} (hret : meth.sig.returnType = some t) (hlk : meth.locks = false) (ht : t = .boolean ∨ t = .byte ∨ t = .char ∨ t = .short) (hd : decode c.code pc = .ok (.ireturn, 1)) (hc : cells ≤ K) (hs : slots ≤ N) (eT : T.heap = h) (hQ : Q (some (.int (nar t x))) h locs) : Goes p e below s Q K N (T.setTop (mkF m pc Ls (.int x :: rest))) := by
  subst eT
  obtain ⟨fs, hr, hrun, hended, hW, hsame⟩ := X.leave (v := some (.int (nar t x))) (fun q => by rw [hret] at q; cases q) hlk
  exact ⟨_, _, retN X hx hret ht hd hr, hrun, hended, _, _, rfl, hQ, ⟨_, rfl⟩, hW, hsame.mono hc hs⟩
theorem o_return (X : Stand p l e R s m args below meth c T locs cells slots) (hx : p.tables.exec = Jvm.exec) (hret : meth.sig.returnType = none) (hlk : meth.locks = false) (hd : decode c.code pc = .ok (.return_, 1)) (hc : cells ≤ K) (hs : slots ≤ N) (eT : T.heap = h) (hQ : Q none h locs) : Goes p e below s Q K N (T.setTop (mkF m pc Ls [])) := by
  subst eT
  obtain ⟨fs, hr, hrun, hended, hW, hsame⟩ := X.leave (v := none) (fun _ => rfl) hlk
  exact ⟨_, _, X.returnOut hx hret hd hr, hrun, hended, _, _, rfl, hQ, ⟨_, rfl⟩, hW, hsame.mono hc hs⟩
/-- what a call that writes nothing promises -/
def Pur (h0 : Heap) (w : Value) (v : Option Value) (h : Heap) (L : List Loc) : Prop := v = some w ∧ h = h0 ∧ L = []
end Layer

theorem o_nz1 : nar .boolean (1 : Int32) = 1 := by decide
theorem o_nz0 : nar .boolean (0 : Int32) = 0 := by decide
theorem o_nar8 (x : Int32) : nar .byte x.toInt8.toInt32 = x.toInt8.toInt32 := by simp [nar]

theorem o_mod3 (x : Int32) : (x &&& 2147483647) % 3 = 0 ∨ (x &&& 2147483647) % 3 = 1 ∨ (x &&& 2147483647) % 3 = 2 := by
  have a := c_mask x 2147483647 31 (by decide) (by decide)
  have b : 0 ≤ x.toInt % (2 ^ 31 : Nat) := Int.emod_nonneg _ (by decide)
  have d := (c_irem (x &&& 2147483647) 3 3 rfl).1 (by rw [a]; exact b)
  have e0 : (0 : Int32).toInt = 0 := rfl
  have e1 : (1 : Int32).toInt = 1 := rfl
  have e2 : (2 : Int32).toInt = 2 := rfl
  simp only [← Int32.toInt_inj]
  omega

theorem o_or (a b : Int32) : (((a.toInt64 <<< (32 : Int64)) ||| (b.toInt64 &&& (4294967295 : Int64))).toInt - (a.toInt * 4294967296 + b.toInt % 4294967296)) % 18446744073709551616 = 0 := by
  have s1 : ((a.toInt64 <<< (32 : Int64)).toInt - a.toInt64.toInt * (2 ^ 32 : Nat)) % 18446744073709551616 = 0 := c_lshl a.toInt64 32 32 (by decide)
  have s2 := c_i2l a
  have s3 := c_i2l b
  have s4 : (b.toInt64 &&& (4294967295 : Int64)).toInt = b.toInt64.toInt % (2 ^ 32 : Nat) := c_maskL b.toInt64 4294967295 32 (by decide) (by decide)
  have s5 := c_orL (a.toInt64 <<< (32 : Int64)) (b.toInt64 &&& (4294967295 : Int64)) 32 (by decide) 4294967296 (by decide) (by omega) (by omega) (by omega)
  omega
theorem o_hi {a b : Int32} {r : Int64} (h : (a.toInt64 <<< (32 : Int64)) ||| (b.toInt64 &&& (4294967295 : Int64)) = r) : (r.toUInt64 >>> (32 : UInt64)).toInt64.toInt32 = a := by
  have s := o_or a b
  rw [h] at s
  apply Int32.toInt_inj.mp
  have s6 : ((r.toUInt64 >>> (32 : UInt64)).toInt64).toInt = (r.toInt % 18446744073709551616) / (2 ^ 32 : Nat) := c_lushr r 32 32 (by decide) (by decide)
  have s7 := c_l2i (r.toUInt64 >>> (32 : UInt64)).toInt64
  have ra1 := Int32.le_toInt ((r.toUInt64 >>> (32 : UInt64)).toInt64.toInt32); have rb1 := Int32.toInt_lt ((r.toUInt64 >>> (32 : UInt64)).toInt64.toInt32)
  have ra2 := Int32.le_toInt a; have rb2 := Int32.toInt_lt a
  have ra3 := Int32.le_toInt b; have rb3 := Int32.toInt_lt b
  have ra4 := Int64.le_toInt r; have rb4 := Int64.toInt_lt r
  omega
theorem o_lo {a b : Int32} {r : Int64} (h : (a.toInt64 <<< (32 : Int64)) ||| (b.toInt64 &&& (4294967295 : Int64)) = r) : r.toInt32 = b := by
  have s := o_or a b
  rw [h] at s
  apply Int32.toInt_inj.mp
  have s7 := c_l2i r
  have ra5 := Int32.le_toInt r.toInt32; have rb5 := Int32.toInt_lt r.toInt32
  have ra6 := Int32.le_toInt a; have rb6 := Int32.toInt_lt a
  have ra7 := Int32.le_toInt b; have rb7 := Int32.toInt_lt b
  have ra8 := Int64.le_toInt r; have rb8 := Int64.toInt_lt r
  omega

theorem d_prog_17_method_5_code_0 : decode prog_17_method_5_code 0 = .ok (.aload_n 0, 1) := by decide +kernel
theorem d_prog_17_method_5_code_1 : decode prog_17_method_5_code 1 = .ok (.iload_n 1, 1) := by decide +kernel
theorem d_prog_17_method_5_code_2 : decode prog_17_method_5_code 2 = .ok (.iaload, 1) := by decide +kernel
theorem d_prog_17_method_5_code_3 : decode prog_17_method_5_code 3 = .ok (.i2l, 1) := by decide +kernel
theorem d_prog_17_method_5_code_4 : decode prog_17_method_5_code 4 = .ok (.bipush 32, 2) := by decide +kernel
theorem d_prog_17_method_5_code_6 : decode prog_17_method_5_code 6 = .ok (.lshl, 1) := by decide +kernel
theorem d_prog_17_method_5_code_7 : decode prog_17_method_5_code 7 = .ok (.aload_n 0, 1) := by decide +kernel
theorem d_prog_17_method_5_code_8 : decode prog_17_method_5_code 8 = .ok (.iload_n 1, 1) := by decide +kernel
theorem d_prog_17_method_5_code_9 : decode prog_17_method_5_code 9 = .ok (.iconst 1, 1) := by decide +kernel
theorem d_prog_17_method_5_code_10 : decode prog_17_method_5_code 10 = .ok (.iadd, 1) := by decide +kernel
theorem d_prog_17_method_5_code_11 : decode prog_17_method_5_code 11 = .ok (.iaload, 1) := by decide +kernel
theorem d_prog_17_method_5_code_12 : decode prog_17_method_5_code 12 = .ok (.i2l, 1) := by decide +kernel
theorem d_prog_17_method_5_code_13 : decode prog_17_method_5_code 13 = .ok (.ldc2_w 58, 3) := by decide +kernel
theorem d_prog_17_method_5_code_16 : decode prog_17_method_5_code 16 = .ok (.land, 1) := by decide +kernel
theorem d_prog_17_method_5_code_17 : decode prog_17_method_5_code 17 = .ok (.lor, 1) := by decide +kernel
theorem d_prog_17_method_5_code_18 : decode prog_17_method_5_code 18 = .ok (.lreturn, 1) := by decide +kernel
theorem o_ef1 (m : MethodId) (a1 : Addr) : entryFrame m #[(.ref a1), (.int (0 : Int32))] 2 = mkF m 0 #[.val (.ref a1), .val (.int (0 : Int32))] [] := by first | (simp [entryFrame, mkF, argsToLocals, Value.category]; done) | rfl
theorem o_pn0 : plainName "acyclon/core/IntChunks" = true := by first | (simp [plainName, overriddenIn]; done) | decide +kernel
set_option maxRecDepth 65536 in
set_option maxHeartbeats 40000000 in
theorem c_longAt_0 (l : Launch) (Z : State) (a0 : Array Value) (hw : ∀ d ∈ tables_1, d.before a0 Z = true) (a1 : Addr) (k1 : ClassId) (w0 : Int32) (w1 : Int32) (w2 : Int32) (w3 : Int32) (h0 : Heap) (pV_a1 : Arv Z h0 a1 k1 .int (4 : Int32) [(.int w0), (.int w1), (.int w2), (.int w3)] (.int (0 : Int32))) :
    Does l Z (⟨"acyclon/core/IntChunks", "longAt", "([II)J"⟩ : MethodName) prog_17_method_5_code 2 (some .long) [] ({ frames := 0, cells := 0, slots := 0, locals := 0 } : Room) #[(.ref a1), (.int (0 : Int32))] h0 (Pur h0 (.long ((w0.toInt64 <<< (32 : Int64)) ||| (w1.toInt64 &&& (4294967295 : Int64))))) := by
  refine Does.of (plainFor_of_name o_pn0) ?_
  intro p e s m below meth c T0 hx hby hml hown hnm hret hlk hZ X0 e0
  have hown : s.vm.findClass "acyclon/core/IntChunks" = some m.cls := hown
  have hml : c.maxLocals = 2 := hml
  have hret : meth.sig.returnType = some .long := hret
  refine o_entry (o_ef1 m a1) ?_
  refine o_aloadN X0 hx (hb hby d_prog_17_method_5_code_0) (v := (.ref a1)) rfl rfl (n := 1) rfl ?_
  refine o_iloadN X0 hx (hb hby d_prog_17_method_5_code_1) (v := (0 : Int32)) rfl (n := 2) rfl ?_
  refine o_iaload X0 hx hZ e0 pV_a1 (0) (by decide) (by decide) (v := (.int w0)) rfl (hb hby d_prog_17_method_5_code_2) (n := 3) rfl ?_
  refine o_i2l X0 hx (hb hby d_prog_17_method_5_code_3) (v := w0.toInt64) rfl (n := 4) rfl ?_
  refine o_bipush X0 hx (hb hby d_prog_17_method_5_code_4) (v := (32 : Int32)) rfl (n := 6) rfl ?_
  refine o_lshl X0 hx (hb hby d_prog_17_method_5_code_6) (v := (w0.toInt64 <<< (32 : Int64))) (congrArg (fun q : Int64 => w0.toInt64 <<< q) (show ((32 : Int32) &&& 0x3f).toInt64 = 32 by decide)) (n := 7) rfl ?_
  refine o_aloadN X0 hx (hb hby d_prog_17_method_5_code_7) (v := (.ref a1)) rfl rfl (n := 8) rfl ?_
  refine o_iloadN X0 hx (hb hby d_prog_17_method_5_code_8) (v := (0 : Int32)) rfl (n := 9) rfl ?_
  refine o_iconst X0 hx (hb hby d_prog_17_method_5_code_9) (v := (1 : Int32)) rfl (n := 10) rfl ?_
  refine o_iadd X0 hx (hb hby d_prog_17_method_5_code_10) (v := (1 : Int32)) (by decide) (n := 11) rfl ?_
  refine o_iaload X0 hx hZ e0 pV_a1 (1) (by decide) (by decide) (v := (.int w1)) rfl (hb hby d_prog_17_method_5_code_11) (n := 12) rfl ?_
  refine o_i2l X0 hx (hb hby d_prog_17_method_5_code_12) (v := w1.toInt64) rfl (n := 13) rfl ?_
  refine o_ldc2_w X0 hx hZ (v := (4294967295 : Int64)) hown (hw _ (List.mem_of_getElem? (i := 6) rfl)) (hb hby d_prog_17_method_5_code_13) (n := 16) rfl ?_
  refine o_land X0 hx (hb hby d_prog_17_method_5_code_16) (v := (w1.toInt64 &&& (4294967295 : Int64))) rfl (n := 17) rfl ?_
  refine o_lor X0 hx (hb hby d_prog_17_method_5_code_17) (v := ((w0.toInt64 <<< (32 : Int64)) ||| (w1.toInt64 &&& (4294967295 : Int64)))) rfl (n := 18) rfl ?_
  exact o_lreturn X0 hx hret hlk (hb hby d_prog_17_method_5_code_18) (by decide) (by decide) e0 ⟨rfl, rfl, rfl⟩
theorem o_ef2 (m : MethodId) (a1 : Addr) : entryFrame m #[(.ref a1), (.int (1 : Int32))] 2 = mkF m 0 #[.val (.ref a1), .val (.int (1 : Int32))] [] := by first | (simp [entryFrame, mkF, argsToLocals, Value.category]; done) | rfl
set_option maxRecDepth 65536 in
set_option maxHeartbeats 40000000 in
theorem c_longAt_1 (l : Launch) (Z : State) (a0 : Array Value) (hw : ∀ d ∈ tables_1, d.before a0 Z = true) (a1 : Addr) (k1 : ClassId) (w0 : Int32) (w1 : Int32) (w2 : Int32) (w3 : Int32) (h0 : Heap) (pV_a1 : Arv Z h0 a1 k1 .int (4 : Int32) [(.int w0), (.int w1), (.int w2), (.int w3)] (.int (0 : Int32))) :
    Does l Z (⟨"acyclon/core/IntChunks", "longAt", "([II)J"⟩ : MethodName) prog_17_method_5_code 2 (some .long) [] ({ frames := 0, cells := 0, slots := 0, locals := 0 } : Room) #[(.ref a1), (.int (1 : Int32))] h0 (Pur h0 (.long ((w1.toInt64 <<< (32 : Int64)) ||| (w2.toInt64 &&& (4294967295 : Int64))))) := by
  refine Does.of (plainFor_of_name o_pn0) ?_
  intro p e s m below meth c T0 hx hby hml hown hnm hret hlk hZ X0 e0
  have hown : s.vm.findClass "acyclon/core/IntChunks" = some m.cls := hown
  have hml : c.maxLocals = 2 := hml
  have hret : meth.sig.returnType = some .long := hret
  refine o_entry (o_ef2 m a1) ?_
  refine o_aloadN X0 hx (hb hby d_prog_17_method_5_code_0) (v := (.ref a1)) rfl rfl (n := 1) rfl ?_
  refine o_iloadN X0 hx (hb hby d_prog_17_method_5_code_1) (v := (1 : Int32)) rfl (n := 2) rfl ?_
  refine o_iaload X0 hx hZ e0 pV_a1 (1) (by decide) (by decide) (v := (.int w1)) rfl (hb hby d_prog_17_method_5_code_2) (n := 3) rfl ?_
  refine o_i2l X0 hx (hb hby d_prog_17_method_5_code_3) (v := w1.toInt64) rfl (n := 4) rfl ?_
  refine o_bipush X0 hx (hb hby d_prog_17_method_5_code_4) (v := (32 : Int32)) rfl (n := 6) rfl ?_
  refine o_lshl X0 hx (hb hby d_prog_17_method_5_code_6) (v := (w1.toInt64 <<< (32 : Int64))) (congrArg (fun q : Int64 => w1.toInt64 <<< q) (show ((32 : Int32) &&& 0x3f).toInt64 = 32 by decide)) (n := 7) rfl ?_
  refine o_aloadN X0 hx (hb hby d_prog_17_method_5_code_7) (v := (.ref a1)) rfl rfl (n := 8) rfl ?_
  refine o_iloadN X0 hx (hb hby d_prog_17_method_5_code_8) (v := (1 : Int32)) rfl (n := 9) rfl ?_
  refine o_iconst X0 hx (hb hby d_prog_17_method_5_code_9) (v := (1 : Int32)) rfl (n := 10) rfl ?_
  refine o_iadd X0 hx (hb hby d_prog_17_method_5_code_10) (v := (2 : Int32)) (by decide) (n := 11) rfl ?_
  refine o_iaload X0 hx hZ e0 pV_a1 (2) (by decide) (by decide) (v := (.int w2)) rfl (hb hby d_prog_17_method_5_code_11) (n := 12) rfl ?_
  refine o_i2l X0 hx (hb hby d_prog_17_method_5_code_12) (v := w2.toInt64) rfl (n := 13) rfl ?_
  refine o_ldc2_w X0 hx hZ (v := (4294967295 : Int64)) hown (hw _ (List.mem_of_getElem? (i := 6) rfl)) (hb hby d_prog_17_method_5_code_13) (n := 16) rfl ?_
  refine o_land X0 hx (hb hby d_prog_17_method_5_code_16) (v := (w2.toInt64 &&& (4294967295 : Int64))) rfl (n := 17) rfl ?_
  refine o_lor X0 hx (hb hby d_prog_17_method_5_code_17) (v := ((w1.toInt64 <<< (32 : Int64)) ||| (w2.toInt64 &&& (4294967295 : Int64)))) rfl (n := 18) rfl ?_
  exact o_lreturn X0 hx hret hlk (hb hby d_prog_17_method_5_code_18) (by decide) (by decide) e0 ⟨rfl, rfl, rfl⟩
theorem o_ef3 (m : MethodId) (a1 : Addr) : entryFrame m #[(.ref a1), (.int (2 : Int32))] 2 = mkF m 0 #[.val (.ref a1), .val (.int (2 : Int32))] [] := by first | (simp [entryFrame, mkF, argsToLocals, Value.category]; done) | rfl
set_option maxRecDepth 65536 in
set_option maxHeartbeats 40000000 in
theorem c_longAt_2 (l : Launch) (Z : State) (a0 : Array Value) (hw : ∀ d ∈ tables_1, d.before a0 Z = true) (a1 : Addr) (k1 : ClassId) (w0 : Int32) (w1 : Int32) (w2 : Int32) (w3 : Int32) (h0 : Heap) (pV_a1 : Arv Z h0 a1 k1 .int (4 : Int32) [(.int w0), (.int w1), (.int w2), (.int w3)] (.int (0 : Int32))) :
    Does l Z (⟨"acyclon/core/IntChunks", "longAt", "([II)J"⟩ : MethodName) prog_17_method_5_code 2 (some .long) [] ({ frames := 0, cells := 0, slots := 0, locals := 0 } : Room) #[(.ref a1), (.int (2 : Int32))] h0 (Pur h0 (.long ((w2.toInt64 <<< (32 : Int64)) ||| (w3.toInt64 &&& (4294967295 : Int64))))) := by
  refine Does.of (plainFor_of_name o_pn0) ?_
  intro p e s m below meth c T0 hx hby hml hown hnm hret hlk hZ X0 e0
  have hown : s.vm.findClass "acyclon/core/IntChunks" = some m.cls := hown
  have hml : c.maxLocals = 2 := hml
  have hret : meth.sig.returnType = some .long := hret
  refine o_entry (o_ef3 m a1) ?_
  refine o_aloadN X0 hx (hb hby d_prog_17_method_5_code_0) (v := (.ref a1)) rfl rfl (n := 1) rfl ?_
  refine o_iloadN X0 hx (hb hby d_prog_17_method_5_code_1) (v := (2 : Int32)) rfl (n := 2) rfl ?_
  refine o_iaload X0 hx hZ e0 pV_a1 (2) (by decide) (by decide) (v := (.int w2)) rfl (hb hby d_prog_17_method_5_code_2) (n := 3) rfl ?_
  refine o_i2l X0 hx (hb hby d_prog_17_method_5_code_3) (v := w2.toInt64) rfl (n := 4) rfl ?_
  refine o_bipush X0 hx (hb hby d_prog_17_method_5_code_4) (v := (32 : Int32)) rfl (n := 6) rfl ?_
  refine o_lshl X0 hx (hb hby d_prog_17_method_5_code_6) (v := (w2.toInt64 <<< (32 : Int64))) (congrArg (fun q : Int64 => w2.toInt64 <<< q) (show ((32 : Int32) &&& 0x3f).toInt64 = 32 by decide)) (n := 7) rfl ?_
  refine o_aloadN X0 hx (hb hby d_prog_17_method_5_code_7) (v := (.ref a1)) rfl rfl (n := 8) rfl ?_
  refine o_iloadN X0 hx (hb hby d_prog_17_method_5_code_8) (v := (2 : Int32)) rfl (n := 9) rfl ?_
  refine o_iconst X0 hx (hb hby d_prog_17_method_5_code_9) (v := (1 : Int32)) rfl (n := 10) rfl ?_
  refine o_iadd X0 hx (hb hby d_prog_17_method_5_code_10) (v := (3 : Int32)) (by decide) (n := 11) rfl ?_
  refine o_iaload X0 hx hZ e0 pV_a1 (3) (by decide) (by decide) (v := (.int w3)) rfl (hb hby d_prog_17_method_5_code_11) (n := 12) rfl ?_
  refine o_i2l X0 hx (hb hby d_prog_17_method_5_code_12) (v := w3.toInt64) rfl (n := 13) rfl ?_
  refine o_ldc2_w X0 hx hZ (v := (4294967295 : Int64)) hown (hw _ (List.mem_of_getElem? (i := 6) rfl)) (hb hby d_prog_17_method_5_code_13) (n := 16) rfl ?_
  refine o_land X0 hx (hb hby d_prog_17_method_5_code_16) (v := (w3.toInt64 &&& (4294967295 : Int64))) rfl (n := 17) rfl ?_
  refine o_lor X0 hx (hb hby d_prog_17_method_5_code_17) (v := ((w2.toInt64 <<< (32 : Int64)) ||| (w3.toInt64 &&& (4294967295 : Int64)))) rfl (n := 18) rfl ?_
  exact o_lreturn X0 hx hret hlk (hb hby d_prog_17_method_5_code_18) (by decide) (by decide) e0 ⟨rfl, rfl, rfl⟩
theorem o_pd0 : parseMethodDescriptor "([II)J" = some ⟨[(.array .int), .int], some .long⟩ := by decide +kernel
theorem o_ef4 (m : MethodId) (p0 : Int32) (p1 : Int32) (p2 : Int32) (p3 : Int32) (p4 : Int32) : entryFrame m #[(.int p0), (.int p1), (.int p2), (.int p3), (.int p4)] maxLocals = mkF m 0 #[.val (.int p0), .val (.int p1), .val (.int p2), .val (.int p3), .val (.int p4), .unset, .unset, .unset, .unset, .unset, .unset, .unset, .unset] [] := by first | (simp [entryFrame, mkF, argsToLocals, Value.category, maxLocals]; done) | rfl
theorem o_pn1 : plainName "acyclon/core/IntChunksLongAtPinLaw" = true := by first | (simp [plainName, overriddenIn]; done) | decide +kernel
set_option maxRecDepth 65536 in
set_option maxHeartbeats 40000000 in
theorem o_law (l : Launch) (Z : State) (a0 : Array Value) (hw : ∀ d ∈ tables_1, d.before a0 Z = true) (p0 : Int32) (p1 : Int32) (p2 : Int32) (p3 : Int32) (p4 : Int32) (h0 : Heap) (n0 : Nat) (Z0 : n0 ≤ h0.size) :
    Does l Z x code maxLocals ret tables_1 room_1 #[(.int p0), (.int p1), (.int p2), (.int p3), (.int p4)] h0 (fun v h L => v = some (.int 1) ∧ Fr n0 L) := by
  refine Does.of (plainFor_of_name o_pn1) ?_
  intro p e s m below meth c T0 hx hby hml hown hnm hret hlk hZ X0 e0
  have hown : s.vm.findClass "acyclon/core/IntChunksLongAtPinLaw" = some m.cls := hown
  have hml : c.maxLocals = 13 := hml
  have hret : meth.sig.returnType = some .boolean := hret
  refine o_entry (o_ef4 m p0 p1 p2 p3 p4) ?_
  have N0 := Fr.nil n0
  rcases o_mod3 p4 with q | q | q
  · refine o_iload X0 hx (hb hby at_0) (v := p4) rfl (n := 2) rfl ?_
    refine o_ldc X0 hx hZ (v := (2147483647 : Int32)) hown (hw _ (List.mem_of_getElem? (i := 0) rfl)) (hb hby at_2) (n := 4) rfl ?_
    refine o_iand X0 hx (hb hby at_4) (v := (p4 &&& (2147483647 : Int32))) rfl (n := 5) rfl ?_
    refine o_iconst X0 hx (hb hby at_5) (v := (3 : Int32)) rfl (n := 6) rfl ?_
    refine o_irem X0 hx (hb hby at_6) (by decide) (v := (0 : Int32)) q (n := 7) rfl ?_
    refine o_istore X0 hx (hb hby at_7) (Ls' := #[.val (.int p0), .val (.int p1), .val (.int p2), .val (.int p3), .val (.int p4), .val (.int (0 : Int32)), .unset, .unset, .unset, .unset, .unset, .unset, .unset]) rfl (n := 9) rfl ?_
    refine o_iconst X0 hx (hb hby at_9) (v := (4 : Int32)) rfl (n := 10) rfl ?_
    refine o_newarray X0 hx hZ (aty := .int) (hw _ (List.mem_of_getElem? (i := 1) rfl)) e0 (hb hby at_10) (by decide) 4 (by decide) (by decide) (by decide) (by decide) (n := 12) rfl ?_
    intro T1 h1 b1 k1 X1 e1 g1 E1 V1
    have gg1 : n0 ≤ b1 := Nat.le_trans Z0 (Nat.le_of_eq g1.symm)
    have zz1 : n0 ≤ h1.size := Nat.le_trans Z0 E1.1
    have f2 : Arv Z h1 b1 k1 .int (4 : Int32) [(.int (0 : Int32)), (.int (0 : Int32)), (.int (0 : Int32)), (.int (0 : Int32))] (.int (0 : Int32)) := V1.pad (pad_rep [] (.int (0 : Int32)) 4)
    refine o_dup X1 hx (hb hby at_12) rfl (n := 13) rfl ?_
    refine o_iconst X1 hx (hb hby at_13) (v := (0 : Int32)) rfl (n := 14) rfl ?_
    refine o_iloadN X1 hx (hb hby at_14) (v := p0) rfl (n := 15) rfl ?_
    refine o_iastore X1 hx hZ e1 f2 (0) (by decide) (by decide) (Nat.le_of_ble_eq_true rfl) (w := (.int p0)) rfl (vs' := [(.int p0), (.int (0 : Int32)), (.int (0 : Int32)), (.int (0 : Int32))]) rfl (hb hby at_15) (n := 16) rfl ?_
    intro T3 h3 X3 e3 W3 V3
    have zz3 : n0 ≤ h3.size := Nat.le_trans zz1 (Nat.le_of_eq W3.size.symm)
    have N4 := Fr.snoc X3 N0 gg1
    refine o_dup X3 hx (hb hby at_16) rfl (n := 17) rfl ?_
    refine o_iconst X3 hx (hb hby at_17) (v := (1 : Int32)) rfl (n := 18) rfl ?_
    refine o_iloadN X3 hx (hb hby at_18) (v := p1) rfl (n := 19) rfl ?_
    refine o_iastore X3 hx hZ e3 V3 (1) (by decide) (by decide) (Nat.le_of_ble_eq_true rfl) (w := (.int p1)) rfl (vs' := [(.int p0), (.int p1), (.int (0 : Int32)), (.int (0 : Int32))]) rfl (hb hby at_19) (n := 20) rfl ?_
    intro T5 h5 X5 e5 W5 V5
    have zz5 : n0 ≤ h5.size := Nat.le_trans zz3 (Nat.le_of_eq W5.size.symm)
    have N6 := Fr.snoc X5 N4 gg1
    refine o_dup X5 hx (hb hby at_20) rfl (n := 21) rfl ?_
    refine o_iconst X5 hx (hb hby at_21) (v := (2 : Int32)) rfl (n := 22) rfl ?_
    refine o_iloadN X5 hx (hb hby at_22) (v := p2) rfl (n := 23) rfl ?_
    refine o_iastore X5 hx hZ e5 V5 (2) (by decide) (by decide) (Nat.le_of_ble_eq_true rfl) (w := (.int p2)) rfl (vs' := [(.int p0), (.int p1), (.int p2), (.int (0 : Int32))]) rfl (hb hby at_23) (n := 24) rfl ?_
    intro T7 h7 X7 e7 W7 V7
    have zz7 : n0 ≤ h7.size := Nat.le_trans zz5 (Nat.le_of_eq W7.size.symm)
    have N8 := Fr.snoc X7 N6 gg1
    refine o_dup X7 hx (hb hby at_24) rfl (n := 25) rfl ?_
    refine o_iconst X7 hx (hb hby at_25) (v := (3 : Int32)) rfl (n := 26) rfl ?_
    refine o_iloadN X7 hx (hb hby at_26) (v := p3) rfl (n := 27) rfl ?_
    refine o_iastore X7 hx hZ e7 V7 (3) (by decide) (by decide) (Nat.le_of_ble_eq_true rfl) (w := (.int p3)) rfl (vs' := [(.int p0), (.int p1), (.int p2), (.int p3)]) rfl (hb hby at_27) (n := 28) rfl ?_
    intro T9 h9 X9 e9 W9 V9
    have zz9 : n0 ≤ h9.size := Nat.le_trans zz7 (Nat.le_of_eq W9.size.symm)
    have N10 := Fr.snoc X9 N8 gg1
    refine o_astore X9 hx (hb hby at_28) rfl (Ls' := #[.val (.int p0), .val (.int p1), .val (.int p2), .val (.int p3), .val (.int p4), .val (.int (0 : Int32)), .val (.ref b1), .unset, .unset, .unset, .unset, .unset, .unset]) rfl (n := 30) rfl ?_
    refine o_aload X9 hx (hb hby at_30) (v := (.ref b1)) rfl rfl (n := 32) rfl ?_
    refine o_iload X9 hx (hb hby at_32) (v := (0 : Int32)) rfl (n := 34) rfl ?_
    refine o_callS X9 hx hZ hown (hw _ (List.mem_of_getElem? (i := 2) rfl)) (hw _ (List.mem_of_getElem? (i := 3) rfl)) (hw _ (List.mem_of_getElem? (i := 4) rfl)) (hw _ (List.mem_of_getElem? (i := 5) rfl)) (by decide) e9 (argsL := [(.ref b1), (.int (0 : Int32))]) (rest := []) (c_longAt_0 l Z a0 hw b1 k1 p0 p1 p2 p3 h9 V9) 0 (by decide) (by decide) (by decide) (by decide) (by rw [hml]; rfl) (lenOf o_pd0 rfl) rfl (Nat.le_of_eq rfl) (hb hby at_34) (n := 37) rfl ?_
    intro v11 T11 L11 X11 q11
    obtain ⟨rfl, e11, rfl⟩ := q11
    have N12 := Fr.app N10 (Fr.nil n0)
    show Goes p e below s _ _ _ (T11.setTop (mkF m 37 #[.val (.int p0), .val (.int p1), .val (.int p2), .val (.int p3), .val (.int p4), .val (.int (0 : Int32)), .val (.ref b1), .unset, .unset, .unset, .unset, .unset, .unset] [(.long ((p0.toInt64 <<< (32 : Int64)) ||| (p1.toInt64 &&& (4294967295 : Int64))))]))
    refine o_lstore X11 hx (hb hby at_37) (Ls' := #[.val (.int p0), .val (.int p1), .val (.int p2), .val (.int p3), .val (.int p4), .val (.int (0 : Int32)), .val (.ref b1), .val (.long ((p0.toInt64 <<< (32 : Int64)) ||| (p1.toInt64 &&& (4294967295 : Int64)))), .second, .unset, .unset, .unset, .unset]) rfl (n := 39) rfl ?_
    generalize h_r : ((p0.toInt64 <<< (32 : Int64)) ||| (p1.toInt64 &&& (4294967295 : Int64))) = r
    refine o_iload X11 hx (hb hby at_39) (v := (0 : Int32)) rfl (n := 41) rfl ?_
    refine o_ifN X11 hx (hb hby at_41) (XT.i0_ne_f (by decide)) (n := 44) rfl ?_
    refine o_iloadN X11 hx (hb hby at_44) (v := p0) rfl (n := 45) rfl ?_
    refine o_goto X11 hx (hb hby at_45) (by decide) (n := 59) (by decide) ?_
    refine o_istore X11 hx (hb hby at_59) (Ls' := #[.val (.int p0), .val (.int p1), .val (.int p2), .val (.int p3), .val (.int p4), .val (.int (0 : Int32)), .val (.ref b1), .val (.long r), .second, .val (.int p0), .unset, .unset, .unset]) rfl (n := 61) rfl ?_
    refine o_iload X11 hx (hb hby at_61) (v := (0 : Int32)) rfl (n := 63) rfl ?_
    refine o_ifN X11 hx (hb hby at_63) (XT.i0_ne_f (by decide)) (n := 66) rfl ?_
    refine o_iloadN X11 hx (hb hby at_66) (v := p1) rfl (n := 67) rfl ?_
    refine o_goto X11 hx (hb hby at_67) (by decide) (n := 81) (by decide) ?_
    refine o_istore X11 hx (hb hby at_81) (Ls' := #[.val (.int p0), .val (.int p1), .val (.int p2), .val (.int p3), .val (.int p4), .val (.int (0 : Int32)), .val (.ref b1), .val (.long r), .second, .val (.int p0), .val (.int p1), .unset, .unset]) rfl (n := 83) rfl ?_
    refine o_lload X11 hx (hb hby at_83) (v := r) rfl (n := 85) rfl ?_
    refine o_bipush X11 hx (hb hby at_85) (v := (32 : Int32)) rfl (n := 87) rfl ?_
    refine o_lushr X11 hx (hb hby at_87) (v := (r.toUInt64 >>> (32 : UInt64)).toInt64) (congrArg (fun q : UInt64 => (r.toUInt64 >>> q).toInt64) (show ((32 : Int32) &&& 0x3f).toInt64.toUInt64 = 32 by decide)) (n := 88) rfl ?_
    refine o_l2i X11 hx (hb hby at_88) (v := ((r.toUInt64 >>> (32 : UInt64)).toInt64).toInt32) rfl (n := 89) rfl ?_
    refine o_iload X11 hx (hb hby at_89) (v := p0) rfl (n := 91) rfl ?_
    refine o_icmpN X11 hx (hb hby at_91) (XT.ii_ne_f (o_hi h_r)) (n := 94) rfl ?_
    refine o_lload X11 hx (hb hby at_94) (v := r) rfl (n := 96) rfl ?_
    refine o_l2i X11 hx (hb hby at_96) (v := r.toInt32) rfl (n := 97) rfl ?_
    refine o_iload X11 hx (hb hby at_97) (v := p1) rfl (n := 99) rfl ?_
    refine o_icmpN X11 hx (hb hby at_99) (XT.ii_ne_f (o_lo h_r)) (n := 102) rfl ?_
    refine o_iconst X11 hx (hb hby at_102) (v := (1 : Int32)) rfl (n := 103) rfl ?_
    refine o_goto X11 hx (hb hby at_103) (by decide) (n := 107) (by decide) ?_
    refine o_istore X11 hx (hb hby at_107) (Ls' := #[.val (.int p0), .val (.int p1), .val (.int p2), .val (.int p3), .val (.int p4), .val (.int (0 : Int32)), .val (.ref b1), .val (.long r), .second, .val (.int p0), .val (.int p1), .val (.int (1 : Int32)), .unset]) rfl (n := 109) rfl ?_
    refine o_aload X11 hx (hb hby at_109) (v := (.ref b1)) rfl rfl (n := 111) rfl ?_
    refine o_iconst X11 hx (hb hby at_111) (v := (0 : Int32)) rfl (n := 112) rfl ?_
    refine o_iaload X11 hx hZ e11 V9 (0) (by decide) (by decide) (v := (.int p0)) rfl (hb hby at_112) (n := 113) rfl ?_
    refine o_iloadN X11 hx (hb hby at_113) (v := p0) rfl (n := 114) rfl ?_
    refine o_icmpN X11 hx (hb hby at_114) (XT.ii_ne_f rfl) (n := 117) rfl ?_
    refine o_aload X11 hx (hb hby at_117) (v := (.ref b1)) rfl rfl (n := 119) rfl ?_
    refine o_iconst X11 hx (hb hby at_119) (v := (1 : Int32)) rfl (n := 120) rfl ?_
    refine o_iaload X11 hx hZ e11 V9 (1) (by decide) (by decide) (v := (.int p1)) rfl (hb hby at_120) (n := 121) rfl ?_
    refine o_iloadN X11 hx (hb hby at_121) (v := p1) rfl (n := 122) rfl ?_
    refine o_icmpN X11 hx (hb hby at_122) (XT.ii_ne_f rfl) (n := 125) rfl ?_
    refine o_aload X11 hx (hb hby at_125) (v := (.ref b1)) rfl rfl (n := 127) rfl ?_
    refine o_iconst X11 hx (hb hby at_127) (v := (2 : Int32)) rfl (n := 128) rfl ?_
    refine o_iaload X11 hx hZ e11 V9 (2) (by decide) (by decide) (v := (.int p2)) rfl (hb hby at_128) (n := 129) rfl ?_
    refine o_iloadN X11 hx (hb hby at_129) (v := p2) rfl (n := 130) rfl ?_
    refine o_icmpN X11 hx (hb hby at_130) (XT.ii_ne_f rfl) (n := 133) rfl ?_
    refine o_aload X11 hx (hb hby at_133) (v := (.ref b1)) rfl rfl (n := 135) rfl ?_
    refine o_iconst X11 hx (hb hby at_135) (v := (3 : Int32)) rfl (n := 136) rfl ?_
    refine o_iaload X11 hx hZ e11 V9 (3) (by decide) (by decide) (v := (.int p3)) rfl (hb hby at_136) (n := 137) rfl ?_
    refine o_iloadN X11 hx (hb hby at_137) (v := p3) rfl (n := 138) rfl ?_
    refine o_icmpN X11 hx (hb hby at_138) (XT.ii_ne_f rfl) (n := 141) rfl ?_
    refine o_iconst X11 hx (hb hby at_141) (v := (1 : Int32)) rfl (n := 142) rfl ?_
    refine o_goto X11 hx (hb hby at_142) (by decide) (n := 146) (by decide) ?_
    refine o_istore X11 hx (hb hby at_146) (Ls' := #[.val (.int p0), .val (.int p1), .val (.int p2), .val (.int p3), .val (.int p4), .val (.int (0 : Int32)), .val (.ref b1), .val (.long r), .second, .val (.int p0), .val (.int p1), .val (.int (1 : Int32)), .val (.int (1 : Int32))]) rfl (n := 148) rfl ?_
    refine o_iload X11 hx (hb hby at_148) (v := (1 : Int32)) rfl (n := 150) rfl ?_
    refine o_ifN X11 hx (hb hby at_150) (XT.i0_eq_f (by decide)) (n := 153) rfl ?_
    refine o_iload X11 hx (hb hby at_153) (v := (1 : Int32)) rfl (n := 155) rfl ?_
    refine o_ifN X11 hx (hb hby at_155) (XT.i0_eq_f (by decide)) (n := 158) rfl ?_
    refine o_iconst X11 hx (hb hby at_158) (v := (1 : Int32)) rfl (n := 159) rfl ?_
    refine o_goto X11 hx (hb hby at_159) (by decide) (n := 163) (by decide) ?_
    exact o_nreturn X11 hx hret hlk (t := .boolean) (by simp) (hb hby at_163) (by decide) (by decide) e11 ⟨rfl, N12⟩
  · refine o_iload X0 hx (hb hby at_0) (v := p4) rfl (n := 2) rfl ?_
    refine o_ldc X0 hx hZ (v := (2147483647 : Int32)) hown (hw _ (List.mem_of_getElem? (i := 0) rfl)) (hb hby at_2) (n := 4) rfl ?_
    refine o_iand X0 hx (hb hby at_4) (v := (p4 &&& (2147483647 : Int32))) rfl (n := 5) rfl ?_
    refine o_iconst X0 hx (hb hby at_5) (v := (3 : Int32)) rfl (n := 6) rfl ?_
    refine o_irem X0 hx (hb hby at_6) (by decide) (v := (1 : Int32)) q (n := 7) rfl ?_
    refine o_istore X0 hx (hb hby at_7) (Ls' := #[.val (.int p0), .val (.int p1), .val (.int p2), .val (.int p3), .val (.int p4), .val (.int (1 : Int32)), .unset, .unset, .unset, .unset, .unset, .unset, .unset]) rfl (n := 9) rfl ?_
    refine o_iconst X0 hx (hb hby at_9) (v := (4 : Int32)) rfl (n := 10) rfl ?_
    refine o_newarray X0 hx hZ (aty := .int) (hw _ (List.mem_of_getElem? (i := 1) rfl)) e0 (hb hby at_10) (by decide) 4 (by decide) (by decide) (by decide) (by decide) (n := 12) rfl ?_
    intro T13 h13 b13 k13 X13 e13 g13 E13 V13
    have gg13 : n0 ≤ b13 := Nat.le_trans Z0 (Nat.le_of_eq g13.symm)
    have zz13 : n0 ≤ h13.size := Nat.le_trans Z0 E13.1
    have f14 : Arv Z h13 b13 k13 .int (4 : Int32) [(.int (0 : Int32)), (.int (0 : Int32)), (.int (0 : Int32)), (.int (0 : Int32))] (.int (0 : Int32)) := V13.pad (pad_rep [] (.int (0 : Int32)) 4)
    refine o_dup X13 hx (hb hby at_12) rfl (n := 13) rfl ?_
    refine o_iconst X13 hx (hb hby at_13) (v := (0 : Int32)) rfl (n := 14) rfl ?_
    refine o_iloadN X13 hx (hb hby at_14) (v := p0) rfl (n := 15) rfl ?_
    refine o_iastore X13 hx hZ e13 f14 (0) (by decide) (by decide) (Nat.le_of_ble_eq_true rfl) (w := (.int p0)) rfl (vs' := [(.int p0), (.int (0 : Int32)), (.int (0 : Int32)), (.int (0 : Int32))]) rfl (hb hby at_15) (n := 16) rfl ?_
    intro T15 h15 X15 e15 W15 V15
    have zz15 : n0 ≤ h15.size := Nat.le_trans zz13 (Nat.le_of_eq W15.size.symm)
    have N16 := Fr.snoc X15 N0 gg13
    refine o_dup X15 hx (hb hby at_16) rfl (n := 17) rfl ?_
    refine o_iconst X15 hx (hb hby at_17) (v := (1 : Int32)) rfl (n := 18) rfl ?_
    refine o_iloadN X15 hx (hb hby at_18) (v := p1) rfl (n := 19) rfl ?_
    refine o_iastore X15 hx hZ e15 V15 (1) (by decide) (by decide) (Nat.le_of_ble_eq_true rfl) (w := (.int p1)) rfl (vs' := [(.int p0), (.int p1), (.int (0 : Int32)), (.int (0 : Int32))]) rfl (hb hby at_19) (n := 20) rfl ?_
    intro T17 h17 X17 e17 W17 V17
    have zz17 : n0 ≤ h17.size := Nat.le_trans zz15 (Nat.le_of_eq W17.size.symm)
    have N18 := Fr.snoc X17 N16 gg13
    refine o_dup X17 hx (hb hby at_20) rfl (n := 21) rfl ?_
    refine o_iconst X17 hx (hb hby at_21) (v := (2 : Int32)) rfl (n := 22) rfl ?_
    refine o_iloadN X17 hx (hb hby at_22) (v := p2) rfl (n := 23) rfl ?_
    refine o_iastore X17 hx hZ e17 V17 (2) (by decide) (by decide) (Nat.le_of_ble_eq_true rfl) (w := (.int p2)) rfl (vs' := [(.int p0), (.int p1), (.int p2), (.int (0 : Int32))]) rfl (hb hby at_23) (n := 24) rfl ?_
    intro T19 h19 X19 e19 W19 V19
    have zz19 : n0 ≤ h19.size := Nat.le_trans zz17 (Nat.le_of_eq W19.size.symm)
    have N20 := Fr.snoc X19 N18 gg13
    refine o_dup X19 hx (hb hby at_24) rfl (n := 25) rfl ?_
    refine o_iconst X19 hx (hb hby at_25) (v := (3 : Int32)) rfl (n := 26) rfl ?_
    refine o_iloadN X19 hx (hb hby at_26) (v := p3) rfl (n := 27) rfl ?_
    refine o_iastore X19 hx hZ e19 V19 (3) (by decide) (by decide) (Nat.le_of_ble_eq_true rfl) (w := (.int p3)) rfl (vs' := [(.int p0), (.int p1), (.int p2), (.int p3)]) rfl (hb hby at_27) (n := 28) rfl ?_
    intro T21 h21 X21 e21 W21 V21
    have zz21 : n0 ≤ h21.size := Nat.le_trans zz19 (Nat.le_of_eq W21.size.symm)
    have N22 := Fr.snoc X21 N20 gg13
    refine o_astore X21 hx (hb hby at_28) rfl (Ls' := #[.val (.int p0), .val (.int p1), .val (.int p2), .val (.int p3), .val (.int p4), .val (.int (1 : Int32)), .val (.ref b13), .unset, .unset, .unset, .unset, .unset, .unset]) rfl (n := 30) rfl ?_
    refine o_aload X21 hx (hb hby at_30) (v := (.ref b13)) rfl rfl (n := 32) rfl ?_
    refine o_iload X21 hx (hb hby at_32) (v := (1 : Int32)) rfl (n := 34) rfl ?_
    refine o_callS X21 hx hZ hown (hw _ (List.mem_of_getElem? (i := 2) rfl)) (hw _ (List.mem_of_getElem? (i := 3) rfl)) (hw _ (List.mem_of_getElem? (i := 4) rfl)) (hw _ (List.mem_of_getElem? (i := 5) rfl)) (by decide) e21 (argsL := [(.ref b13), (.int (1 : Int32))]) (rest := []) (c_longAt_1 l Z a0 hw b13 k13 p0 p1 p2 p3 h21 V21) 0 (by decide) (by decide) (by decide) (by decide) (by rw [hml]; rfl) (lenOf o_pd0 rfl) rfl (Nat.le_of_eq rfl) (hb hby at_34) (n := 37) rfl ?_
    intro v23 T23 L23 X23 q23
    obtain ⟨rfl, e23, rfl⟩ := q23
    have N24 := Fr.app N22 (Fr.nil n0)
    show Goes p e below s _ _ _ (T23.setTop (mkF m 37 #[.val (.int p0), .val (.int p1), .val (.int p2), .val (.int p3), .val (.int p4), .val (.int (1 : Int32)), .val (.ref b13), .unset, .unset, .unset, .unset, .unset, .unset] [(.long ((p1.toInt64 <<< (32 : Int64)) ||| (p2.toInt64 &&& (4294967295 : Int64))))]))
    refine o_lstore X23 hx (hb hby at_37) (Ls' := #[.val (.int p0), .val (.int p1), .val (.int p2), .val (.int p3), .val (.int p4), .val (.int (1 : Int32)), .val (.ref b13), .val (.long ((p1.toInt64 <<< (32 : Int64)) ||| (p2.toInt64 &&& (4294967295 : Int64)))), .second, .unset, .unset, .unset, .unset]) rfl (n := 39) rfl ?_
    generalize h_r : ((p1.toInt64 <<< (32 : Int64)) ||| (p2.toInt64 &&& (4294967295 : Int64))) = r
    refine o_iload X23 hx (hb hby at_39) (v := (1 : Int32)) rfl (n := 41) rfl ?_
    refine o_ifY X23 hx (hb hby at_41) (XT.i0_ne_t (by decide)) (by decide) (n := 48) (by decide) ?_
    refine o_iload X23 hx (hb hby at_48) (v := (1 : Int32)) rfl (n := 50) rfl ?_
    refine o_iconst X23 hx (hb hby at_50) (v := (1 : Int32)) rfl (n := 51) rfl ?_
    refine o_icmpN X23 hx (hb hby at_51) (XT.ii_ne_f (by decide)) (n := 54) rfl ?_
    refine o_iloadN X23 hx (hb hby at_54) (v := p1) rfl (n := 55) rfl ?_
    refine o_goto X23 hx (hb hby at_55) (by decide) (n := 59) (by decide) ?_
    refine o_istore X23 hx (hb hby at_59) (Ls' := #[.val (.int p0), .val (.int p1), .val (.int p2), .val (.int p3), .val (.int p4), .val (.int (1 : Int32)), .val (.ref b13), .val (.long r), .second, .val (.int p1), .unset, .unset, .unset]) rfl (n := 61) rfl ?_
    refine o_iload X23 hx (hb hby at_61) (v := (1 : Int32)) rfl (n := 63) rfl ?_
    refine o_ifY X23 hx (hb hby at_63) (XT.i0_ne_t (by decide)) (by decide) (n := 70) (by decide) ?_
    refine o_iload X23 hx (hb hby at_70) (v := (1 : Int32)) rfl (n := 72) rfl ?_
    refine o_iconst X23 hx (hb hby at_72) (v := (1 : Int32)) rfl (n := 73) rfl ?_
    refine o_icmpN X23 hx (hb hby at_73) (XT.ii_ne_f (by decide)) (n := 76) rfl ?_
    refine o_iloadN X23 hx (hb hby at_76) (v := p2) rfl (n := 77) rfl ?_
    refine o_goto X23 hx (hb hby at_77) (by decide) (n := 81) (by decide) ?_
    refine o_istore X23 hx (hb hby at_81) (Ls' := #[.val (.int p0), .val (.int p1), .val (.int p2), .val (.int p3), .val (.int p4), .val (.int (1 : Int32)), .val (.ref b13), .val (.long r), .second, .val (.int p1), .val (.int p2), .unset, .unset]) rfl (n := 83) rfl ?_
    refine o_lload X23 hx (hb hby at_83) (v := r) rfl (n := 85) rfl ?_
    refine o_bipush X23 hx (hb hby at_85) (v := (32 : Int32)) rfl (n := 87) rfl ?_
    refine o_lushr X23 hx (hb hby at_87) (v := (r.toUInt64 >>> (32 : UInt64)).toInt64) (congrArg (fun q : UInt64 => (r.toUInt64 >>> q).toInt64) (show ((32 : Int32) &&& 0x3f).toInt64.toUInt64 = 32 by decide)) (n := 88) rfl ?_
    refine o_l2i X23 hx (hb hby at_88) (v := ((r.toUInt64 >>> (32 : UInt64)).toInt64).toInt32) rfl (n := 89) rfl ?_
    refine o_iload X23 hx (hb hby at_89) (v := p1) rfl (n := 91) rfl ?_
    refine o_icmpN X23 hx (hb hby at_91) (XT.ii_ne_f (o_hi h_r)) (n := 94) rfl ?_
    refine o_lload X23 hx (hb hby at_94) (v := r) rfl (n := 96) rfl ?_
    refine o_l2i X23 hx (hb hby at_96) (v := r.toInt32) rfl (n := 97) rfl ?_
    refine o_iload X23 hx (hb hby at_97) (v := p2) rfl (n := 99) rfl ?_
    refine o_icmpN X23 hx (hb hby at_99) (XT.ii_ne_f (o_lo h_r)) (n := 102) rfl ?_
    refine o_iconst X23 hx (hb hby at_102) (v := (1 : Int32)) rfl (n := 103) rfl ?_
    refine o_goto X23 hx (hb hby at_103) (by decide) (n := 107) (by decide) ?_
    refine o_istore X23 hx (hb hby at_107) (Ls' := #[.val (.int p0), .val (.int p1), .val (.int p2), .val (.int p3), .val (.int p4), .val (.int (1 : Int32)), .val (.ref b13), .val (.long r), .second, .val (.int p1), .val (.int p2), .val (.int (1 : Int32)), .unset]) rfl (n := 109) rfl ?_
    refine o_aload X23 hx (hb hby at_109) (v := (.ref b13)) rfl rfl (n := 111) rfl ?_
    refine o_iconst X23 hx (hb hby at_111) (v := (0 : Int32)) rfl (n := 112) rfl ?_
    refine o_iaload X23 hx hZ e23 V21 (0) (by decide) (by decide) (v := (.int p0)) rfl (hb hby at_112) (n := 113) rfl ?_
    refine o_iloadN X23 hx (hb hby at_113) (v := p0) rfl (n := 114) rfl ?_
    refine o_icmpN X23 hx (hb hby at_114) (XT.ii_ne_f rfl) (n := 117) rfl ?_
    refine o_aload X23 hx (hb hby at_117) (v := (.ref b13)) rfl rfl (n := 119) rfl ?_
    refine o_iconst X23 hx (hb hby at_119) (v := (1 : Int32)) rfl (n := 120) rfl ?_
    refine o_iaload X23 hx hZ e23 V21 (1) (by decide) (by decide) (v := (.int p1)) rfl (hb hby at_120) (n := 121) rfl ?_
    refine o_iloadN X23 hx (hb hby at_121) (v := p1) rfl (n := 122) rfl ?_
    refine o_icmpN X23 hx (hb hby at_122) (XT.ii_ne_f rfl) (n := 125) rfl ?_
    refine o_aload X23 hx (hb hby at_125) (v := (.ref b13)) rfl rfl (n := 127) rfl ?_
    refine o_iconst X23 hx (hb hby at_127) (v := (2 : Int32)) rfl (n := 128) rfl ?_
    refine o_iaload X23 hx hZ e23 V21 (2) (by decide) (by decide) (v := (.int p2)) rfl (hb hby at_128) (n := 129) rfl ?_
    refine o_iloadN X23 hx (hb hby at_129) (v := p2) rfl (n := 130) rfl ?_
    refine o_icmpN X23 hx (hb hby at_130) (XT.ii_ne_f rfl) (n := 133) rfl ?_
    refine o_aload X23 hx (hb hby at_133) (v := (.ref b13)) rfl rfl (n := 135) rfl ?_
    refine o_iconst X23 hx (hb hby at_135) (v := (3 : Int32)) rfl (n := 136) rfl ?_
    refine o_iaload X23 hx hZ e23 V21 (3) (by decide) (by decide) (v := (.int p3)) rfl (hb hby at_136) (n := 137) rfl ?_
    refine o_iloadN X23 hx (hb hby at_137) (v := p3) rfl (n := 138) rfl ?_
    refine o_icmpN X23 hx (hb hby at_138) (XT.ii_ne_f rfl) (n := 141) rfl ?_
    refine o_iconst X23 hx (hb hby at_141) (v := (1 : Int32)) rfl (n := 142) rfl ?_
    refine o_goto X23 hx (hb hby at_142) (by decide) (n := 146) (by decide) ?_
    refine o_istore X23 hx (hb hby at_146) (Ls' := #[.val (.int p0), .val (.int p1), .val (.int p2), .val (.int p3), .val (.int p4), .val (.int (1 : Int32)), .val (.ref b13), .val (.long r), .second, .val (.int p1), .val (.int p2), .val (.int (1 : Int32)), .val (.int (1 : Int32))]) rfl (n := 148) rfl ?_
    refine o_iload X23 hx (hb hby at_148) (v := (1 : Int32)) rfl (n := 150) rfl ?_
    refine o_ifN X23 hx (hb hby at_150) (XT.i0_eq_f (by decide)) (n := 153) rfl ?_
    refine o_iload X23 hx (hb hby at_153) (v := (1 : Int32)) rfl (n := 155) rfl ?_
    refine o_ifN X23 hx (hb hby at_155) (XT.i0_eq_f (by decide)) (n := 158) rfl ?_
    refine o_iconst X23 hx (hb hby at_158) (v := (1 : Int32)) rfl (n := 159) rfl ?_
    refine o_goto X23 hx (hb hby at_159) (by decide) (n := 163) (by decide) ?_
    exact o_nreturn X23 hx hret hlk (t := .boolean) (by simp) (hb hby at_163) (by decide) (by decide) e23 ⟨rfl, N24⟩
  · refine o_iload X0 hx (hb hby at_0) (v := p4) rfl (n := 2) rfl ?_
    refine o_ldc X0 hx hZ (v := (2147483647 : Int32)) hown (hw _ (List.mem_of_getElem? (i := 0) rfl)) (hb hby at_2) (n := 4) rfl ?_
    refine o_iand X0 hx (hb hby at_4) (v := (p4 &&& (2147483647 : Int32))) rfl (n := 5) rfl ?_
    refine o_iconst X0 hx (hb hby at_5) (v := (3 : Int32)) rfl (n := 6) rfl ?_
    refine o_irem X0 hx (hb hby at_6) (by decide) (v := (2 : Int32)) q (n := 7) rfl ?_
    refine o_istore X0 hx (hb hby at_7) (Ls' := #[.val (.int p0), .val (.int p1), .val (.int p2), .val (.int p3), .val (.int p4), .val (.int (2 : Int32)), .unset, .unset, .unset, .unset, .unset, .unset, .unset]) rfl (n := 9) rfl ?_
    refine o_iconst X0 hx (hb hby at_9) (v := (4 : Int32)) rfl (n := 10) rfl ?_
    refine o_newarray X0 hx hZ (aty := .int) (hw _ (List.mem_of_getElem? (i := 1) rfl)) e0 (hb hby at_10) (by decide) 4 (by decide) (by decide) (by decide) (by decide) (n := 12) rfl ?_
    intro T25 h25 b25 k25 X25 e25 g25 E25 V25
    have gg25 : n0 ≤ b25 := Nat.le_trans Z0 (Nat.le_of_eq g25.symm)
    have zz25 : n0 ≤ h25.size := Nat.le_trans Z0 E25.1
    have f26 : Arv Z h25 b25 k25 .int (4 : Int32) [(.int (0 : Int32)), (.int (0 : Int32)), (.int (0 : Int32)), (.int (0 : Int32))] (.int (0 : Int32)) := V25.pad (pad_rep [] (.int (0 : Int32)) 4)
    refine o_dup X25 hx (hb hby at_12) rfl (n := 13) rfl ?_
    refine o_iconst X25 hx (hb hby at_13) (v := (0 : Int32)) rfl (n := 14) rfl ?_
    refine o_iloadN X25 hx (hb hby at_14) (v := p0) rfl (n := 15) rfl ?_
    refine o_iastore X25 hx hZ e25 f26 (0) (by decide) (by decide) (Nat.le_of_ble_eq_true rfl) (w := (.int p0)) rfl (vs' := [(.int p0), (.int (0 : Int32)), (.int (0 : Int32)), (.int (0 : Int32))]) rfl (hb hby at_15) (n := 16) rfl ?_
    intro T27 h27 X27 e27 W27 V27
    have zz27 : n0 ≤ h27.size := Nat.le_trans zz25 (Nat.le_of_eq W27.size.symm)
    have N28 := Fr.snoc X27 N0 gg25
    refine o_dup X27 hx (hb hby at_16) rfl (n := 17) rfl ?_
    refine o_iconst X27 hx (hb hby at_17) (v := (1 : Int32)) rfl (n := 18) rfl ?_
    refine o_iloadN X27 hx (hb hby at_18) (v := p1) rfl (n := 19) rfl ?_
    refine o_iastore X27 hx hZ e27 V27 (1) (by decide) (by decide) (Nat.le_of_ble_eq_true rfl) (w := (.int p1)) rfl (vs' := [(.int p0), (.int p1), (.int (0 : Int32)), (.int (0 : Int32))]) rfl (hb hby at_19) (n := 20) rfl ?_
    intro T29 h29 X29 e29 W29 V29
    have zz29 : n0 ≤ h29.size := Nat.le_trans zz27 (Nat.le_of_eq W29.size.symm)
    have N30 := Fr.snoc X29 N28 gg25
    refine o_dup X29 hx (hb hby at_20) rfl (n := 21) rfl ?_
    refine o_iconst X29 hx (hb hby at_21) (v := (2 : Int32)) rfl (n := 22) rfl ?_
    refine o_iloadN X29 hx (hb hby at_22) (v := p2) rfl (n := 23) rfl ?_
    refine o_iastore X29 hx hZ e29 V29 (2) (by decide) (by decide) (Nat.le_of_ble_eq_true rfl) (w := (.int p2)) rfl (vs' := [(.int p0), (.int p1), (.int p2), (.int (0 : Int32))]) rfl (hb hby at_23) (n := 24) rfl ?_
    intro T31 h31 X31 e31 W31 V31
    have zz31 : n0 ≤ h31.size := Nat.le_trans zz29 (Nat.le_of_eq W31.size.symm)
    have N32 := Fr.snoc X31 N30 gg25
    refine o_dup X31 hx (hb hby at_24) rfl (n := 25) rfl ?_
    refine o_iconst X31 hx (hb hby at_25) (v := (3 : Int32)) rfl (n := 26) rfl ?_
    refine o_iloadN X31 hx (hb hby at_26) (v := p3) rfl (n := 27) rfl ?_
    refine o_iastore X31 hx hZ e31 V31 (3) (by decide) (by decide) (Nat.le_of_ble_eq_true rfl) (w := (.int p3)) rfl (vs' := [(.int p0), (.int p1), (.int p2), (.int p3)]) rfl (hb hby at_27) (n := 28) rfl ?_
    intro T33 h33 X33 e33 W33 V33
    have zz33 : n0 ≤ h33.size := Nat.le_trans zz31 (Nat.le_of_eq W33.size.symm)
    have N34 := Fr.snoc X33 N32 gg25
    refine o_astore X33 hx (hb hby at_28) rfl (Ls' := #[.val (.int p0), .val (.int p1), .val (.int p2), .val (.int p3), .val (.int p4), .val (.int (2 : Int32)), .val (.ref b25), .unset, .unset, .unset, .unset, .unset, .unset]) rfl (n := 30) rfl ?_
    refine o_aload X33 hx (hb hby at_30) (v := (.ref b25)) rfl rfl (n := 32) rfl ?_
    refine o_iload X33 hx (hb hby at_32) (v := (2 : Int32)) rfl (n := 34) rfl ?_
    refine o_callS X33 hx hZ hown (hw _ (List.mem_of_getElem? (i := 2) rfl)) (hw _ (List.mem_of_getElem? (i := 3) rfl)) (hw _ (List.mem_of_getElem? (i := 4) rfl)) (hw _ (List.mem_of_getElem? (i := 5) rfl)) (by decide) e33 (argsL := [(.ref b25), (.int (2 : Int32))]) (rest := []) (c_longAt_2 l Z a0 hw b25 k25 p0 p1 p2 p3 h33 V33) 0 (by decide) (by decide) (by decide) (by decide) (by rw [hml]; rfl) (lenOf o_pd0 rfl) rfl (Nat.le_of_eq rfl) (hb hby at_34) (n := 37) rfl ?_
    intro v35 T35 L35 X35 q35
    obtain ⟨rfl, e35, rfl⟩ := q35
    have N36 := Fr.app N34 (Fr.nil n0)
    show Goes p e below s _ _ _ (T35.setTop (mkF m 37 #[.val (.int p0), .val (.int p1), .val (.int p2), .val (.int p3), .val (.int p4), .val (.int (2 : Int32)), .val (.ref b25), .unset, .unset, .unset, .unset, .unset, .unset] [(.long ((p2.toInt64 <<< (32 : Int64)) ||| (p3.toInt64 &&& (4294967295 : Int64))))]))
    refine o_lstore X35 hx (hb hby at_37) (Ls' := #[.val (.int p0), .val (.int p1), .val (.int p2), .val (.int p3), .val (.int p4), .val (.int (2 : Int32)), .val (.ref b25), .val (.long ((p2.toInt64 <<< (32 : Int64)) ||| (p3.toInt64 &&& (4294967295 : Int64)))), .second, .unset, .unset, .unset, .unset]) rfl (n := 39) rfl ?_
    generalize h_r : ((p2.toInt64 <<< (32 : Int64)) ||| (p3.toInt64 &&& (4294967295 : Int64))) = r
    refine o_iload X35 hx (hb hby at_39) (v := (2 : Int32)) rfl (n := 41) rfl ?_
    refine o_ifY X35 hx (hb hby at_41) (XT.i0_ne_t (by decide)) (by decide) (n := 48) (by decide) ?_
    refine o_iload X35 hx (hb hby at_48) (v := (2 : Int32)) rfl (n := 50) rfl ?_
    refine o_iconst X35 hx (hb hby at_50) (v := (1 : Int32)) rfl (n := 51) rfl ?_
    refine o_icmpY X35 hx (hb hby at_51) (XT.ii_ne_t (by decide)) (by decide) (n := 58) (by decide) ?_
    refine o_iloadN X35 hx (hb hby at_58) (v := p2) rfl (n := 59) rfl ?_
    refine o_istore X35 hx (hb hby at_59) (Ls' := #[.val (.int p0), .val (.int p1), .val (.int p2), .val (.int p3), .val (.int p4), .val (.int (2 : Int32)), .val (.ref b25), .val (.long r), .second, .val (.int p2), .unset, .unset, .unset]) rfl (n := 61) rfl ?_
    refine o_iload X35 hx (hb hby at_61) (v := (2 : Int32)) rfl (n := 63) rfl ?_
    refine o_ifY X35 hx (hb hby at_63) (XT.i0_ne_t (by decide)) (by decide) (n := 70) (by decide) ?_
    refine o_iload X35 hx (hb hby at_70) (v := (2 : Int32)) rfl (n := 72) rfl ?_
    refine o_iconst X35 hx (hb hby at_72) (v := (1 : Int32)) rfl (n := 73) rfl ?_
    refine o_icmpY X35 hx (hb hby at_73) (XT.ii_ne_t (by decide)) (by decide) (n := 80) (by decide) ?_
    refine o_iloadN X35 hx (hb hby at_80) (v := p3) rfl (n := 81) rfl ?_
    refine o_istore X35 hx (hb hby at_81) (Ls' := #[.val (.int p0), .val (.int p1), .val (.int p2), .val (.int p3), .val (.int p4), .val (.int (2 : Int32)), .val (.ref b25), .val (.long r), .second, .val (.int p2), .val (.int p3), .unset, .unset]) rfl (n := 83) rfl ?_
    refine o_lload X35 hx (hb hby at_83) (v := r) rfl (n := 85) rfl ?_
    refine o_bipush X35 hx (hb hby at_85) (v := (32 : Int32)) rfl (n := 87) rfl ?_
    refine o_lushr X35 hx (hb hby at_87) (v := (r.toUInt64 >>> (32 : UInt64)).toInt64) (congrArg (fun q : UInt64 => (r.toUInt64 >>> q).toInt64) (show ((32 : Int32) &&& 0x3f).toInt64.toUInt64 = 32 by decide)) (n := 88) rfl ?_
    refine o_l2i X35 hx (hb hby at_88) (v := ((r.toUInt64 >>> (32 : UInt64)).toInt64).toInt32) rfl (n := 89) rfl ?_
    refine o_iload X35 hx (hb hby at_89) (v := p2) rfl (n := 91) rfl ?_
    refine o_icmpN X35 hx (hb hby at_91) (XT.ii_ne_f (o_hi h_r)) (n := 94) rfl ?_
    refine o_lload X35 hx (hb hby at_94) (v := r) rfl (n := 96) rfl ?_
    refine o_l2i X35 hx (hb hby at_96) (v := r.toInt32) rfl (n := 97) rfl ?_
    refine o_iload X35 hx (hb hby at_97) (v := p3) rfl (n := 99) rfl ?_
    refine o_icmpN X35 hx (hb hby at_99) (XT.ii_ne_f (o_lo h_r)) (n := 102) rfl ?_
    refine o_iconst X35 hx (hb hby at_102) (v := (1 : Int32)) rfl (n := 103) rfl ?_
    refine o_goto X35 hx (hb hby at_103) (by decide) (n := 107) (by decide) ?_
    refine o_istore X35 hx (hb hby at_107) (Ls' := #[.val (.int p0), .val (.int p1), .val (.int p2), .val (.int p3), .val (.int p4), .val (.int (2 : Int32)), .val (.ref b25), .val (.long r), .second, .val (.int p2), .val (.int p3), .val (.int (1 : Int32)), .unset]) rfl (n := 109) rfl ?_
    refine o_aload X35 hx (hb hby at_109) (v := (.ref b25)) rfl rfl (n := 111) rfl ?_
    refine o_iconst X35 hx (hb hby at_111) (v := (0 : Int32)) rfl (n := 112) rfl ?_
    refine o_iaload X35 hx hZ e35 V33 (0) (by decide) (by decide) (v := (.int p0)) rfl (hb hby at_112) (n := 113) rfl ?_
    refine o_iloadN X35 hx (hb hby at_113) (v := p0) rfl (n := 114) rfl ?_
    refine o_icmpN X35 hx (hb hby at_114) (XT.ii_ne_f rfl) (n := 117) rfl ?_
    refine o_aload X35 hx (hb hby at_117) (v := (.ref b25)) rfl rfl (n := 119) rfl ?_
    refine o_iconst X35 hx (hb hby at_119) (v := (1 : Int32)) rfl (n := 120) rfl ?_
    refine o_iaload X35 hx hZ e35 V33 (1) (by decide) (by decide) (v := (.int p1)) rfl (hb hby at_120) (n := 121) rfl ?_
    refine o_iloadN X35 hx (hb hby at_121) (v := p1) rfl (n := 122) rfl ?_
    refine o_icmpN X35 hx (hb hby at_122) (XT.ii_ne_f rfl) (n := 125) rfl ?_
    refine o_aload X35 hx (hb hby at_125) (v := (.ref b25)) rfl rfl (n := 127) rfl ?_
    refine o_iconst X35 hx (hb hby at_127) (v := (2 : Int32)) rfl (n := 128) rfl ?_
    refine o_iaload X35 hx hZ e35 V33 (2) (by decide) (by decide) (v := (.int p2)) rfl (hb hby at_128) (n := 129) rfl ?_
    refine o_iloadN X35 hx (hb hby at_129) (v := p2) rfl (n := 130) rfl ?_
    refine o_icmpN X35 hx (hb hby at_130) (XT.ii_ne_f rfl) (n := 133) rfl ?_
    refine o_aload X35 hx (hb hby at_133) (v := (.ref b25)) rfl rfl (n := 135) rfl ?_
    refine o_iconst X35 hx (hb hby at_135) (v := (3 : Int32)) rfl (n := 136) rfl ?_
    refine o_iaload X35 hx hZ e35 V33 (3) (by decide) (by decide) (v := (.int p3)) rfl (hb hby at_136) (n := 137) rfl ?_
    refine o_iloadN X35 hx (hb hby at_137) (v := p3) rfl (n := 138) rfl ?_
    refine o_icmpN X35 hx (hb hby at_138) (XT.ii_ne_f rfl) (n := 141) rfl ?_
    refine o_iconst X35 hx (hb hby at_141) (v := (1 : Int32)) rfl (n := 142) rfl ?_
    refine o_goto X35 hx (hb hby at_142) (by decide) (n := 146) (by decide) ?_
    refine o_istore X35 hx (hb hby at_146) (Ls' := #[.val (.int p0), .val (.int p1), .val (.int p2), .val (.int p3), .val (.int p4), .val (.int (2 : Int32)), .val (.ref b25), .val (.long r), .second, .val (.int p2), .val (.int p3), .val (.int (1 : Int32)), .val (.int (1 : Int32))]) rfl (n := 148) rfl ?_
    refine o_iload X35 hx (hb hby at_148) (v := (1 : Int32)) rfl (n := 150) rfl ?_
    refine o_ifN X35 hx (hb hby at_150) (XT.i0_eq_f (by decide)) (n := 153) rfl ?_
    refine o_iload X35 hx (hb hby at_153) (v := (1 : Int32)) rfl (n := 155) rfl ?_
    refine o_ifN X35 hx (hb hby at_155) (XT.i0_eq_f (by decide)) (n := 158) rfl ?_
    refine o_iconst X35 hx (hb hby at_158) (v := (1 : Int32)) rfl (n := 159) rfl ?_
    refine o_goto X35 hx (hb hby at_159) (by decide) (n := 163) (by decide) ?_
    exact o_nreturn X35 hx hret hlk (t := .boolean) (by simp) (hb hby at_163) (by decide) (by decide) e35 ⟨rfl, N36⟩
set_option maxRecDepth 65536 in
set_option maxHeartbeats 40000000 in
theorem comes_1 {Post : Tables → Env → Array Value → State → Outcome → State → Prop} (hpost : ∀ tb e args s v u, (limb_1_1.after args s (.returned v) u = true ∧ limb_1_2.after args s (.returned v) u = true ∧ True) → FrameEnd s (.returned v) u (Jvm.fieldLocs frame_1_writes args s ++ Jvm.arrayLocs frame_1_arrays args s ++ Jvm.staticLocs frame_1_statics s) 16 128 → Post tb e args s (.returned v) u) :
    ArmFor flags0 classFile x code maxLocals ret World_1 tables_1 room_1 Calls_1 rest_1 Pre_1 Post := by
  intro l hfl _ _ p e ha hc hk s m args below hf hA hF happ hP
  obtain ⟨hcalls, hrest, hpre⟩ := hP
  obtain ⟨-, -, -, hnamed, -, -, -, hat⟩ := (Spec.applies_iff hf).mp happ
  obtain ⟨hg, hn⟩ := and_e (Cond.before_iff.mp (show (Jvm.Cond.and given_1 narrow_1).before args s = true from hpre))
  obtain ⟨gv1, gv2⟩ := and_e hg
  obtain ⟨gv3, gv4⟩ := and_e gv2
  obtain ⟨gv5, gv6⟩ := and_e gv4
  obtain ⟨gv7, gv8⟩ := and_e gv6
  obtain ⟨gv9, gv10⟩ := and_e gv8
  obtain ⟨w0, w1, w2, w3, w4, rfl⟩ : ∃ w0 w1 w2 w3 w4 : Value, args = #[w0, w1, w2, w3, w4] := by
    have hs : args.size = 5 := by simpa [Cond.value, given_1] using gv1
    obtain ⟨L⟩ := args
    match L, hs with
    | [w0, w1, w2, w3, w4], _ => exact ⟨w0, w1, w2, w3, w4, rfl⟩
  have hw := fun d (hd : d ∈ tables_1) => atoms_spec (ws := Jvm.Cond.code x code maxLocals ret :: tables_1) hat d (List.mem_cons_of_mem _ hd)
  have hfit : Fit s := fun {y c} hc i hi => by
    obtain ⟨ha, rfl⟩ := Array.getElem?_eq_some_iff.mp hc
    have q := List.all_eq_true.mp ((Array.all_eq_true_iff_forall_mem.mp hF) _ (Array.getElem_mem ha)) i (List.mem_range.mpr hi)
    simpa [Array.getElem?_eq_getElem hi] using q
  obtain ⟨i0, ei0⟩ := is_v gv3
  obtain rfl : w0 = (.int i0) := Option.some.inj ei0
  obtain ⟨i1, ei1⟩ := is_v gv5
  obtain rfl : w1 = (.int i1) := Option.some.inj ei1
  obtain ⟨i2, ei2⟩ := is_v gv7
  obtain rfl : w2 = (.int i2) := Option.some.inj ei2
  obtain ⟨i3, ei3⟩ := is_v gv9
  obtain rfl : w3 = (.int i3) := Option.some.inj ei3
  obtain ⟨i4, ei4⟩ := is_v gv10
  obtain rfl : w4 = (.int i4) := Option.some.inj ei4
  obtain ⟨n, o, h1, h2, h3, _, L, rfl, ⟨rfl, N⟩, hq⟩ := o_law l s _ hw i0 i1 i2 i3 i4 s.heap s.heap.size (Nat.le_refl _) p e ha hc hk s m _ below hf ((Spec.applies_iff_loose hf).mp happ).1 ⟨rfl, State.Warmed39.refl s, rfl⟩ trivial
  refine ⟨n, _, h1, h2, h3, hpost _ _ _ _ _ _ ⟨Cond.after_iff.mpr rfl, Cond.after_iff.mpr (eq_i res_at (Term.int_eval (1)) rfl), trivial⟩ ⟨hq.1, hq.2.1, (hq.2.2.sift fun y hy => Or.inr (N y hy)).mono (by decide) (by decide)⟩⟩
theorem main_1_1 : Claimed_1_1 := comes_1 fun _ _ _ _ _ _ h hF => ⟨h.1, hF⟩
theorem main_1_2 : Claimed_1_2 := comes_1 fun _ _ _ _ _ _ h hF => ⟨h.2.1, hF⟩
end Jvm.Pilot.@@N@@
namespace Jvm.Pilot.@@N@@
open Jvm Jvm.ClassFile Sem Op Lib Jvm.Free Jvm.Stand Jvm.Pilot.@@N@@.Jvm.D
/-! MADE BY PROGRAM (witnessworld.py) out of the Statement's table words and the real class files: 9 classes; the members and pool entries that the words name. The judged class is class 1, her method 1. -/
namespace start1
open Jvm.ClassFile
def u (s : String) : CpInfo := .utf8 (stringToUtf16 s)
/-- a pool by its gaps: so many unusable entries, then the entry; so many at the end -/
def gap : Nat → List CpInfo → List CpInfo
  | 0, r => r
  | n + 1, r => .unusable :: gap n r
def poolList (es : List (Nat × CpInfo)) (last : Nat) : List CpInfo := es.foldr (fun e r => gap e.1 (e.2 :: r)) (gap last [])
def pool (es : List (Nat × CpInfo)) (last : Nat) : Array CpInfo := ⟨poolList es last⟩
def fileOf (pool : Array CpInfo) (this : Nat) (attrs : Array Attribute := #[]) (ms : Array MethodInfo := #[]) (fl : Nat := 33) (sup : Nat := 0) (ifs : Array Nat := #[]) (fds : Array FieldInfo := #[]) : ClassFile where
  minorVersion := 0
  majorVersion := 65
  constantPool := pool
  accessFlags := fl
  thisClass := this
  superClass := sup
  interfaces := ifs
  fields := fds
  methods := ms
  attributes := attrs
def plain (name : String) (sup : Option ClassId) : Class where
  name := name
  kind := .ordinary
  loader := none
  accessFlags := 33
  super := sup
  interfaces := #[]
  cf := none
  fields := #[]
  methods := #[]
  instanceTypes := #[]
  staticTypes := #[]
  resolved := #[]
  callSites := []
  init := .initialized
  statics := none
  mirror := none

def pool0 : Array CpInfo := pool [(5, u "<init>"), (0, u "()V"), (1, .class_ 10), (1, u "java/lang/Object")] 113

def k0m0 : Method := { name := "<init>", desc := "()V", sig := { parameters := [], returnType := none }, accessFlags := 1, code := none }
/-- java/lang/Object -/
def k0 : Class := { plain "java/lang/Object" none with
  accessFlags := 33
  interfaces := #[]
  cf := some (fileOf pool0 8 #[] #[{ accessFlags := 1, nameIndex := 5, descriptorIndex := 6, attributes := #[] }] 33 0 #[] #[])
  fields := #[]
  methods := #[k0m0]
  instanceTypes := #[]
  staticTypes := #[]
  resolved := Array.replicate 124 none
  statics := none }

def pool1 : Array CpInfo := pool [(2, .class_ 4), (1, u "java/lang/Object"), (0, u "<init>"), (0, u "()V"), (0, .integer 2147483647), (0, .methodref 9 10), (0, .class_ 11), (0, .nameAndType 12 13), (0, u "acyclon/core/IntChunks"), (0, u "longAt"), (0, u "([II)J"), (0, .class_ 15), (0, u "acyclon/core/IntChunksLongAtPinLaw"), (2, u "law"), (0, u "(IIIII)Z")] 5

def k1m0 : Method := { name := "<init>", desc := "()V", sig := { parameters := [], returnType := none }, accessFlags := 1, code := none }
def k1c1 : Code := { maxStack := 4, maxLocals := 13, code := code, exceptionTable := #[], attributes := #[] }
def k1m1 : Method := { name := "law", desc := "(IIIII)Z", sig := { parameters := [.int, .int, .int, .int, .int], returnType := some .boolean }, accessFlags := 9, code := some k1c1 }
/-- acyclon/core/IntChunksLongAtPinLaw -/
def k1 : Class := { plain "acyclon/core/IntChunksLongAtPinLaw" (some 0) with
  accessFlags := 49
  interfaces := #[]
  cf := some (fileOf pool1 14 #[] #[{ accessFlags := 1, nameIndex := 5, descriptorIndex := 6, attributes := #[] }, { accessFlags := 9, nameIndex := 18, descriptorIndex := 19, attributes := #[] }] 49 2 #[] #[])
  fields := #[]
  methods := #[k1m0, k1m1]
  instanceTypes := #[]
  staticTypes := #[]
  resolved := Array.replicate 25 none
  statics := none }

def pool2 : Array CpInfo := pool [(2, .class_ 4), (1, u "java/lang/Object"), (0, u "<init>"), (0, u "()V"), (1, u "[I"), (1, .class_ 12), (1, u "acyclon/core/IntChunks"), (0, u "chunks"), (0, u "[[I"), (2, u "ends"), (2, u "count"), (0, u "I"), (36, .long 4294967295), (1, u "FIRST"), (2, u "LARGEST"), (5, u "longAt"), (0, u "([II)J")] 8

def k2m0 : Method := { name := "<init>", desc := "()V", sig := { parameters := [], returnType := none }, accessFlags := 0, code := none }
def k2c1 : Code := { maxStack := 6, maxLocals := 2, code := prog_17_method_5_code, exceptionTable := #[], attributes := #[] }
def k2m1 : Method := { name := "longAt", desc := "([II)J", sig := { parameters := [(.array .int), .int], returnType := some .long }, accessFlags := 8, code := some k2c1 }
/-- acyclon/core/IntChunks -/
def k2 : Class := { plain "acyclon/core/IntChunks" (some 0) with
  accessFlags := 48
  interfaces := #[]
  cf := some (fileOf pool2 10 #[] #[{ accessFlags := 0, nameIndex := 5, descriptorIndex := 6, attributes := #[] }, { accessFlags := 8, nameIndex := 69, descriptorIndex := 70, attributes := #[] }] 48 2 #[] #[{ accessFlags := 26, nameIndex := 60, descriptorIndex := 21, attributes := #[] }, { accessFlags := 26, nameIndex := 63, descriptorIndex := 21, attributes := #[] }, { accessFlags := 2, nameIndex := 13, descriptorIndex := 14, attributes := #[] }, { accessFlags := 2, nameIndex := 17, descriptorIndex := 8, attributes := #[] }, { accessFlags := 2, nameIndex := 20, descriptorIndex := 21, attributes := #[] }])
  fields := #[{ name := "FIRST", type := .int, accessFlags := 26, slot := 0, constantValue := 0 }, { name := "LARGEST", type := .int, accessFlags := 26, slot := 1, constantValue := 0 }, { name := "chunks", type := (.array (.array .int)), accessFlags := 2, slot := 0, constantValue := 0 }, { name := "ends", type := (.array .int), accessFlags := 2, slot := 1, constantValue := 0 }, { name := "count", type := .int, accessFlags := 2, slot := 2, constantValue := 0 }]
  methods := #[k2m0, k2m1]
  instanceTypes := #[(.array (.array .int)), (.array .int), .int]
  staticTypes := #[.int, .int]
  resolved := Array.replicate 79 none
  statics := none }

def pool3 : Array CpInfo := pool [(1, u "java/lang/Cloneable"), (0, .class_ 1), (0, u "java/lang/Object"), (0, .class_ 3)] 3

/-- java/lang/Cloneable -/
def k3 : Class := { plain "java/lang/Cloneable" (some 0) with
  accessFlags := 1537
  interfaces := #[]
  cf := some (fileOf pool3 2 #[] #[] 1537 4 #[] #[])
  fields := #[]
  methods := #[]
  instanceTypes := #[]
  staticTypes := #[]
  resolved := Array.replicate 8 none
  statics := none }

def pool4 : Array CpInfo := pool [(1, u "java/io/Serializable"), (0, .class_ 1), (0, u "java/lang/Object"), (0, .class_ 3)] 3

/-- java/io/Serializable -/
def k4 : Class := { plain "java/io/Serializable" (some 0) with
  accessFlags := 1537
  interfaces := #[]
  cf := some (fileOf pool4 2 #[] #[] 1537 4 #[] #[])
  fields := #[]
  methods := #[]
  instanceTypes := #[]
  staticTypes := #[]
  resolved := Array.replicate 8 none
  statics := none }

/-- the primitive byte -/
def k5 : Class := { plain "byte" none with kind := .primitive 'B', accessFlags := 0x411 }
/-- [B -/
def k6 : Class := { plain "[B" (some 0) with kind := .array 5 .byte, interfaces := #[3, 4], accessFlags := 1041 }

/-- the primitive int -/
def k7 : Class := { plain "int" none with kind := .primitive 'I', accessFlags := 0x411 }
/-- [I -/
def k8 : Class := { plain "[I" (some 0) with kind := .array 7 .int, interfaces := #[3, 4], accessFlags := 1041 }

def heap : Heap := #[]
def classes : Array Class := #[k0, k1, k2, k3, k4, k5, k6, k7, k8]
def interned : List (Array UInt16 × Addr) := []
def slotsUsed : Nat := 0
def theMethod : MethodId := ⟨1, 1⟩
def args0 : Array Value := #[.int 5, .int 5, .int 5, .int 5, .int 5]
def aboutOver (below : List Frame) : State where
  vm := { classes := classes, interned := interned.toArray }
  heap := heap
  slotsUsed := slotsUsed
  threads := #[{ frames := .invoking theMethod args0 :: below }]
def below0 : List Frame := [.native { method := ⟨0, 0⟩, args := #[] }]
def about1 : State := aboutOver below0
def p0 : Program := .bare "" "" ""
def e0 : Env := launch0.env 0 0 0
theorem w_frames : about1.frames = Frame.invoking theMethod args0 :: below0 := rfl
set_option maxRecDepth 65536 in
theorem w_args : argsFit about1.vm theMethod args0 = true := by decide +kernel
set_option maxRecDepth 65536 in
theorem w_heap : heapFits about1 = true := by decide +kernel
set_option maxRecDepth 65536 in
theorem w_runnable : about1.curStatus? = some .runnable := by decide +kernel
set_option maxRecDepth 65536 in
theorem w_alone : about1.alone = true := by decide +kernel
set_option maxRecDepth 65536 in
theorem w_named : about1.methodNamed? x = some theMethod := by decide +kernel
set_option maxRecDepth 65536 in
theorem w_hears : about1.hears theMethod below0 = true := by decide +kernel
set_option maxRecDepth 65536 in
theorem w_ripe : about1.ripe theMethod args0 below0 = true := by decide +kernel
theorem w_running : about1.status = .running := rfl
set_option maxRecDepth 65536 in
theorem w_room : about1.hasRoom e0.platform room_1 = true :=
  launch0.hasRoom_least _ room_1 (by decide +kernel) (by decide +kernel) (by decide +kernel) (by decide +kernel) (by decide +kernel) (by decide +kernel)
theorem allAtoms_all (ts : List Jvm.Cond) (a : Array Jvm.Value) (st : Jvm.State) : (allAtoms ts).before a st = ts.all (fun c => c.before a st) := by
  induction ts with
  | nil => rfl
  | cons c t ih =>
    show (Jvm.Cond.and c (allAtoms t)).before a st = _
    rw [Jvm.Cond.before_and, ih, List.all_cons]
def words1 : List Jvm.Cond := Jvm.Cond.code x code maxLocals ret :: tables_1
/-- a 'code' word, met by the world's own term for the bytes: nothing is compared byte by byte -/
theorem code_word {y : MethodName} {bytes : ByteArray} {mx : Nat} {rt : Option FieldType} {a : Array Value} {s : State} {m : MethodId} {meth : Method} {c : Code} (h1 : s.methodNamed? y = some m) (h2 : s.vm.method? m = some meth) (h3 : meth.code = some c) (h4 : c.code = bytes)
    (h5 : (c.maxLocals == mx && c.exceptionTable.isEmpty && decide (c.maxStack ≤ mostOperands) && decide (meth.sig.returnType = rt) && !meth.locks && decide (parseMethodDescriptor y.desc = some meth.sig)) = true) : (Jvm.Cond.code y bytes mx rt).before a s = true := by
  simp only [Bool.and_eq_true, beq_iff_eq, Bool.not_eq_true', decide_eq_true_eq] at h5
  obtain ⟨⟨⟨⟨⟨g1, g2⟩, g3⟩, g4⟩, g5⟩, g6⟩ := h5
  simp [Cond.before, Cond.holds, Cond.value, h1, h2, h3, h4, g1, g2, g3, g4, g5, g6]
def isCode : Jvm.Cond → Bool
  | .code _ _ _ _ => true
  | _ => false
theorem all_split {L : List Jvm.Cond} {P : Jvm.Cond → Bool} (h1 : L.all (fun c => isCode c || P c) = true) (h2 : ∀ c ∈ L.filter isCode, P c = true) : L.all P = true := by
  refine List.all_eq_true.mpr fun c hc => ?_
  have h := List.all_eq_true.mp h1 c hc
  rcases Bool.eq_false_or_eq_true (isCode c) with hi | hi
  · exact h2 c (List.mem_filter.mpr ⟨hc, hi⟩)
  · simpa [hi] using h
set_option maxRecDepth 65536 in
theorem w_c0 : (Jvm.Cond.code x code maxLocals ret).before args0 about1 = true := code_word (m := ⟨1, 1⟩) (meth := k1m1) (c := k1c1) (by decide +kernel) rfl rfl rfl (by decide +kernel)
set_option maxRecDepth 65536 in
theorem w_c1 : (Jvm.Cond.code ({ cls := "acyclon/core/IntChunks", name := "longAt", desc := "([II)J" } : Jvm.MethodName) prog_17_method_5_code (2 : Nat) (Option.some Jvm.ClassFile.FieldType.long)).before args0 about1 = true := code_word (m := ⟨2, 1⟩) (meth := k2m1) (c := k2c1) (by decide +kernel) rfl rfl rfl (by decide +kernel)
def codes1 : List Jvm.Cond := [Jvm.Cond.code x code maxLocals ret, Jvm.Cond.code ({ cls := "acyclon/core/IntChunks", name := "longAt", desc := "([II)J" } : Jvm.MethodName) prog_17_method_5_code (2 : Nat) (Option.some Jvm.ClassFile.FieldType.long)]
set_option maxRecDepth 65536 in
theorem codes_eq : words1.filter isCode = codes1 := rfl
theorem w_codes : ∀ c ∈ words1.filter isCode, c.before args0 about1 = true := by
  rw [codes_eq]
  intro c hc
  simp only [codes1, List.mem_cons, List.not_mem_nil, or_false] at hc
  rcases hc with rfl | rfl
  · exact w_c0
  · exact w_c1
set_option maxRecDepth 65536 in
theorem w_t1 : words1.all (fun c => isCode c || c.before args0 about1) = true := by decide +kernel
theorem w_tables : (allAtoms (Jvm.Cond.code x code maxLocals ret :: tables_1)).before args0 about1 = true := by
  rw [allAtoms_all]
  show words1.all (fun c => c.before args0 about1) = true
  refine all_split ?_ w_codes
  rw [w_t1]
set_option maxRecDepth 65536 in
theorem w_case : (Jvm.Cond.and given_1 narrow_1).before args0 about1 = true := by decide +kernel
theorem w_applies : (headSpec (Jvm.Cond.code x code maxLocals ret :: tables_1) room_1).applies x e0.platform about1 = true :=
  (Spec.applies_iff w_frames).mpr ⟨w_running, w_runnable, w_alone, w_named, w_hears, w_ripe, w_room, w_tables⟩
theorem atStart : AtStart classFile x code maxLocals ret World_1 tables_1 room_1 Calls_1 rest_1 Pre_1 launch0 p0 e0 about1 theMethod args0 below0 :=
  ⟨lists_1, trivial, launch0.admits_env _ _ _, launch0.least_env, fairChoices_fair.cas, fairChoices_fair.clock, w_frames, w_args, w_heap, w_applies, trivial, trivial, w_case⟩
end start1
theorem witness_1 : WitnessClaimed_1 := ⟨start1.p0, start1.e0, start1.about1, start1.theMethod, start1.args0, start1.below0, start1.atStart⟩
end Jvm.Pilot.@@N@@
